/-
  THE PLAIN LAW of seat b6613423aD: what 'Lib.isPrintR' answers on Go's own tables, range by range. No Go text, no program here.
-/
import Derived.Lib.PrintData
import Derived.KernelRfl
namespace Go.Proofs.Qxb6613423aDoor
open Go.Lib

/-- Is the list rising (not strictly)? -/
def upB : List Nat → Bool
  | [] => true
  | a :: l => (match l with
    | [] => true
    | b :: _ => decide (a ≤ b)) && upB l

theorem up_next : ∀ (t : List Nat), upB t = true → ∀ i, i + 1 < t.length → t.getD i 0 ≤ t.getD (i + 1) 0
  | [], _, i, hi => by simp at hi
  | [a], _, i, hi => by simp at hi
  | a :: b :: l, h, 0, _ => by
    simp only [upB, Bool.and_eq_true, decide_eq_true_eq] at h
    simpa using h.1
  | a :: b :: l, h, i + 1, hi => by
    have h' : upB (b :: l) = true := by
      rw [upB, Bool.and_eq_true] at h
      exact h.2
    have := up_next (b :: l) h' i (by simpa using hi)
    simpa using this

theorem up_le (t : List Nat) (h : upB t = true) (i : Nat) : ∀ (n : Nat), i + n < t.length → t.getD i 0 ≤ t.getD (i + n) 0
  | 0, _ => Nat.le_refl _
  | n + 1, hn => Nat.le_trans (up_le t h i n (by omega)) (up_next t h (i + n) (by omega))

theorem up_mono {t : List Nat} (h : upB t = true) {i j : Nat} (hij : i ≤ j) (hj : j < t.length) : t.getD i 0 ≤ t.getD j 0 := by
  have := up_le t h i (j - i) (by omega)
  rwa [show i + (j - i) = j by omega] at this

/-- What the search ends at: all ahead are below v, all from there on are not. -/
theorem bsearch_spec {t : List Nat} (h : upB t = true) (v : Nat) : ∀ (fuel i j : Nat), i ≤ j → j ≤ t.length → j - i ≤ fuel →
    (∀ q, q < i → t.getD q 0 < v) → (∀ q, j ≤ q → q < t.length → v ≤ t.getD q 0) →
    (∀ q, q < bsearchFrom t v fuel i j → t.getD q 0 < v) ∧ (∀ q, bsearchFrom t v fuel i j ≤ q → q < t.length → v ≤ t.getD q 0)
  | 0, i, j, hij, _, hf, h1, h2 => by
    obtain rfl : i = j := by omega
    exact ⟨h1, h2⟩
  | fuel + 1, i, j, hij, hj, hf, h1, h2 => by
    rw [bsearchFrom]
    by_cases hlt : i < j
    · rw [if_pos hlt]
      by_cases hv : t.getD (i + (j - i) / 2) 0 < v
      · rw [if_pos hv]
        refine bsearch_spec h v fuel _ j (by omega) hj (by omega) (fun q hq => ?_) h2
        exact Nat.lt_of_le_of_lt (up_mono h (by omega) (by omega)) hv
      · rw [if_neg hv]
        refine bsearch_spec h v fuel i _ (by omega) (by omega) (by omega) h1 (fun q hq hql => ?_)
        exact Nat.le_trans (by omega) (up_mono h hq hql)
    · rw [if_neg hlt]
      obtain rfl : i = j := by omega
      exact ⟨h1, h2⟩

theorem bsearchI_at {t : List Nat} (h : upB t = true) {v k : Nat} (hk : k ≤ t.length) (h1 : 0 < k → t.getD (k - 1) 0 < v) (h2 : k < t.length → v ≤ t.getD k 0) : bsearchI t v = k := by
  obtain ⟨a, b⟩ := bsearch_spec h v t.length 0 t.length (Nat.zero_le _) (Nat.le_refl _) (by omega) (fun q hq => by omega) (fun q hq hl => by omega)
  have hle := bsearchI_le t v
  have a' : ∀ q, q < bsearchI t v → t.getD q 0 < v := a
  have b' : ∀ q, bsearchI t v ≤ q → q < t.length → v ≤ t.getD q 0 := b
  rcases Nat.lt_trichotomy (bsearchI t v) k with hl | he | hg
  · have := b' (k - 1) (by omega) (by omega)
    have := h1 (by omega)
    omega
  · exact he
  · have := a' k hg
    have := h2 (by omega)
    omega

/-- x lies in the gap behind entry k - 1 (k even): out of the ranges. -/
theorem out_gap {t : List Nat} (h : upB t = true) {k lo hi : Nat} (hk : k < t.length) (he : k % 2 = 0) (hlo : t.getD (k - 1) 0 = lo) (hhi : t.getD k 0 = hi) {x : Nat} (h1 : lo < x) (h2 : x < hi) : outOfRanges t x = true := by
  have hb : bsearchI t x = k := bsearchI_at h (by omega) (fun _ => by omega) (fun _ => by omega)
  have e : k / 2 * 2 = k := by omega
  unfold outOfRanges
  rw [hb, e, hhi]
  simp [h2]

theorem out_end {t : List Nat} (h : upB t = true) {last : Nat} (hlast : t.getD (t.length - 1) 0 = last) {x : Nat} (h1 : last < x) : outOfRanges t x = true := by
  have hb : bsearchI t x = t.length := bsearchI_at h (Nat.le_refl _) (fun _ => by omega) (fun q => by omega)
  unfold outOfRanges
  rw [hb]
  simp

/-- x lies in the range of entries k, k + 1 (k even). -/
theorem in_range {t : List Nat} (h : upB t = true) {k pre lo hi : Nat} (hk : k + 1 < t.length) (he : k % 2 = 0) (hpre : t.getD (k - 1) 0 = pre) (hlo : t.getD k 0 = lo) (hhi : t.getD (k + 1) 0 = hi) (hp : pre < lo)
    {x : Nat} (h1 : lo ≤ x) (h2 : x ≤ hi) : outOfRanges t x = false := by
  have hb : bsearchI t x = k ∨ bsearchI t x = k + 1 := by
    by_cases hx : x = lo
    · exact .inl (bsearchI_at h (by omega) (fun _ => by omega) (fun _ => by omega))
    · exact .inr (bsearchI_at h (by omega) (fun _ => by rw [Nat.add_sub_cancel]; omega) (fun _ => by omega))
  have e : bsearchI t x / 2 * 2 = k := by omega
  have hlen : bsearchI t x < t.length := by omega
  unfold outOfRanges
  rw [e, hlo, hhi]
  simp only [Bool.or_eq_false_iff, decide_eq_false_iff_not]
  omega

theorem found_false {t : List Nat} {v : Nat} (h : ∀ y ∈ t, y ≠ v) : bsearchFound t v = false := by
  unfold bsearchFound
  by_cases hl : bsearchI t v < t.length
  · have : t.getD (bsearchI t v) 0 ≠ v := by
      rw [List.getD_eq_getElem?_getD, List.getElem?_eq_getElem hl]
      exact h _ (List.getElem_mem hl)
    rw [decide_eq_false this]; simp
  · simp [hl]

theorem up16 : upB goPrintTabs.p16 = true := by decide +kernel
theorem up32 : upB goPrintTabs.p32 = true := by decide +kernel
theorem len16 : goPrintTabs.p16.length = 412 := by decide +kernel
theorem len32 : goPrintTabs.p32.length = 566 := by decide +kernel

/-- The rune does not print as itself: U+FFFD, or strconv.IsPrint says no. -/
def unprintR (r : Int) : Bool := decide (r = 65533) || !isPrintR goPrintTabs r

theorem no_gap16 {r : Int} {k lo hi : Nat} (hk : k < 412) (he : k % 2 = 0) (hlo : goPrintTabs.p16.getD (k - 1) 0 = lo) (hhi : goPrintTabs.p16.getD k 0 = hi) (h255 : 255 < r) (h1 : (lo : Int) < r) (h2 : r < hi) (h3 : r < 65536) : unprintR r = true := by
  have ho : outOfRanges goPrintTabs.p16 r.toNat = true := out_gap up16 (k := k) (by rw [len16]; exact hk) he hlo hhi (by omega) (by omega)
  unfold unprintR isPrintR
  rw [if_neg (by omega), if_pos h3, if_pos ho]
  simp

theorem no_gap32 {r : Int} {k lo hi : Nat} (hk : k < 566) (he : k % 2 = 0) (hlo : goPrintTabs.p32.getD (k - 1) 0 = lo) (hhi : goPrintTabs.p32.getD k 0 = hi) (h65 : 65536 ≤ r) (h1 : (lo : Int) < r) (h2 : r < hi) : unprintR r = true := by
  have ho : outOfRanges goPrintTabs.p32 r.toNat = true := out_gap up32 (k := k) (by rw [len32]; exact hk) he hlo hhi (by omega) (by omega)
  unfold unprintR isPrintR
  rw [if_neg (by omega), if_neg (by omega), if_pos ho]
  simp

theorem no_end16 {r : Int} (h1 : 65533 < r) (h3 : r < 65536) : unprintR r = true := by
  have ho : outOfRanges goPrintTabs.p16 r.toNat = true := out_end up16 (last := 65533) (by decide +kernel) (by omega)
  unfold unprintR isPrintR
  rw [if_neg (by omega), if_pos h3, if_pos ho]
  simp

theorem no_end32 {r : Int} (h1 : 917999 < r) : unprintR r = true := by
  have ho : outOfRanges goPrintTabs.p32 r.toNat = true := out_end up32 (last := 917999) (by decide +kernel) (by omega)
  unfold unprintR isPrintR
  rw [if_neg (by omega), if_neg (by omega), if_pos ho]
  simp

theorem yes16 {r : Int} {k pre lo hi : Nat} (hk : k + 1 < 412) (he : k % 2 = 0) (hpre : goPrintTabs.p16.getD (k - 1) 0 = pre) (hlo : goPrintTabs.p16.getD k 0 = lo) (hhi : goPrintTabs.p16.getD (k + 1) 0 = hi) (hp : pre < lo)
    (h255 : 255 < r) (h3 : r < 65533) (h1 : (lo : Int) ≤ r) (h2 : r ≤ hi) (hn : ∀ y ∈ goPrintTabs.n16, (y : Int) ≠ r) : unprintR r = false := by
  have ho : outOfRanges goPrintTabs.p16 r.toNat = false := in_range up16 (k := k) (by rw [len16]; exact hk) he hpre hlo hhi hp (by omega) (by omega)
  have hf : bsearchFound goPrintTabs.n16 r.toNat = false := found_false fun y hy => by have := hn y hy; omega
  unfold unprintR isPrintR
  rw [if_neg (by omega), if_pos (by omega), if_neg (by rw [ho]; decide), hf]
  simp; omega

theorem yes32 {r : Int} {k pre lo hi : Nat} (hk : k + 1 < 566) (he : k % 2 = 0) (hpre : goPrintTabs.p32.getD (k - 1) 0 = pre) (hlo : goPrintTabs.p32.getD k 0 = lo) (hhi : goPrintTabs.p32.getD (k + 1) 0 = hi) (hp : pre < lo)
    (h65 : 65536 ≤ r) (h3 : r < 131072) (h1 : (lo : Int) ≤ r) (h2 : r ≤ hi) (hn : ∀ y ∈ goPrintTabs.n32, (y : Int) + 65536 ≠ r) : unprintR r = false := by
  have ho : outOfRanges goPrintTabs.p32 r.toNat = false := in_range up32 (k := k) (by rw [len32]; exact hk) he hpre hlo hhi hp (by omega) (by omega)
  have hf : bsearchFound goPrintTabs.n32 (r.toNat - 65536) = false := found_false fun y hy => by have := hn y hy; omega
  unfold unprintR isPrintR
  rw [if_neg (by omega), if_neg (by omega), if_neg (by rw [ho]; decide), if_neg (by omega), hf]
  simp; omega

/-- No entry of n16 lies between. -/
theorem none16 (lo hi : Nat) (h : (goPrintTabs.n16.all fun y => decide (y < lo) || decide (hi < y)) = true) {r : Int} (h1 : (lo : Int) ≤ r) (h2 : r ≤ hi) : ∀ y ∈ goPrintTabs.n16, (y : Int) ≠ r := by
  intro y hy
  have := List.all_eq_true.1 h y hy
  simp at this
  omega
theorem none32 (lo hi : Nat) (h : (goPrintTabs.n32.all fun y => decide (y < lo) || decide (hi < y)) = true) {r : Int} (h1 : (lo : Int) + 65536 ≤ r) (h2 : r ≤ hi + 65536) : ∀ y ∈ goPrintTabs.n32, (y : Int) + 65536 ≠ r := by
  intro y hy
  have := List.all_eq_true.1 h y hy
  simp at this
  omega

/-! ### The first law: no scalar value, U+FFFD, Latin-1 -/
theorem un_neg {r : Int} (h : r < 0) : unprintR r = true := by
  unfold unprintR isPrintR isPrintLatin
  rw [if_pos (by omega)]
  simp; omega
theorem un_high {r : Int} (h : 1114111 < r) : unprintR r = true := no_end32 (by omega)
theorem un_surr {r : Int} (h1 : 55296 ≤ r) (h2 : r ≤ 57343) : unprintR r = true :=
  no_gap16 (k := 382) (lo := 55291) (hi := 63744) (by omega) (by omega) (by decide +kernel) (by decide +kernel) (by omega) (by omega) (by omega) (by omega)
theorem un_fffd : unprintR 65533 = true := by simp [unprintR]
theorem un_latin {r : Int} (h0 : 0 ≤ r) (h1 : r ≤ 255) : unprintR r = true ↔ (r < 32 ∨ (127 ≤ r ∧ r ≤ 159) ∨ r = 160 ∨ r = 173) := by
  unfold unprintR isPrintR isPrintLatin
  rw [if_pos h1]
  simp only [Bool.or_eq_true, decide_eq_true_eq, Bool.not_eq_true', Bool.or_eq_false_iff, Bool.and_eq_false_iff, decide_eq_false_iff_not]
  omega

/-! ### The second law: the classes -/
theorem un_pua {r : Int} (h1 : 57344 ≤ r) (h2 : r ≤ 63743) : unprintR r = true :=
  no_gap16 (k := 382) (lo := 55291) (hi := 63744) (by omega) (by omega) (by decide +kernel) (by decide +kernel) (by omega) (by omega) (by omega) (by omega)
theorem un_fdd0 {r : Int} (h1 : 64976 ≤ r) (h2 : r ≤ 65007) : unprintR r = true :=
  no_gap16 (k := 392) (lo := 64975) (hi := 65008) (by omega) (by omega) (by decide +kernel) (by decide +kernel) (by omega) (by omega) (by omega) (by omega)
theorem un_2000 {r : Int} (h1 : 8191 ≤ r) (h2 : r ≤ 8207) : unprintR r = true :=
  no_gap16 (k := 284) (lo := 8190) (hi := 8208) (by omega) (by omega) (by decide +kernel) (by decide +kernel) (by omega) (by omega) (by omega) (by omega)
theorem un_2028 {r : Int} (h1 : 8232 ≤ r) (h2 : r ≤ 8239) : unprintR r = true :=
  no_gap16 (k := 286) (lo := 8231) (hi := 8240) (by omega) (by omega) (by decide +kernel) (by decide +kernel) (by omega) (by omega) (by omega) (by omega)
theorem un_205f {r : Int} (h1 : 8287 ≤ r) (h2 : r ≤ 8303) : unprintR r = true :=
  no_gap16 (k := 288) (lo := 8286) (hi := 8304) (by omega) (by omega) (by decide +kernel) (by decide +kernel) (by omega) (by omega) (by omega) (by omega)
theorem un_feff {r : Int} (h1 : 65277 ≤ r) (h2 : r ≤ 65280) : unprintR r = true :=
  no_gap16 (k := 398) (lo := 65276) (hi := 65281) (by omega) (by omega) (by decide +kernel) (by decide +kernel) (by omega) (by omega) (by omega) (by omega)
theorem un_fff9 {r : Int} (h1 : 65519 ≤ r) (h2 : r ≤ 65531) : unprintR r = true :=
  no_gap16 (k := 410) (lo := 65518) (hi := 65532) (by omega) (by omega) (by decide +kernel) (by decide +kernel) (by omega) (by omega) (by omega) (by omega)
theorem un_1fffe {r : Int} (h1 : 130043 ≤ r) (h2 : r ≤ 131071) : unprintR r = true :=
  no_gap32 (k := 548) (lo := 130042) (hi := 131072) (by omega) (by omega) (by decide +kernel) (by decide +kernel) (by omega) (by omega) (by omega)
theorem un_2fffe {r : Int} (h1 : 195102 ≤ r) (h2 : r ≤ 196607) : unprintR r = true :=
  no_gap32 (k := 560) (lo := 195101) (hi := 196608) (by omega) (by omega) (by decide +kernel) (by decide +kernel) (by omega) (by omega) (by omega)
theorem un_tags {r : Int} (h1 : 210042 ≤ r) (h2 : r ≤ 917759) : unprintR r = true :=
  no_gap32 (k := 564) (lo := 210041) (hi := 917760) (by omega) (by omega) (by decide +kernel) (by decide +kernel) (by omega) (by omega) (by omega)
theorem un_1680 : unprintR 5760 = true := by decide +kernel
theorem un_3000 : unprintR 12288 = true := by decide +kernel

/-- The runes that the law calls escaped. -/
def Esc (r : Int) : Prop := (57344 ≤ r ∧ r ≤ 63743) ∨ (983040 ≤ r ∧ r ≤ 1114111) ∨ (64976 ≤ r ∧ r ≤ 65007) ∨ (0 ≤ r ∧ r ≤ 1114111 ∧ 65534 ≤ r % 65536) ∨ r = 5760 ∨ r = 12288 ∨ (8192 ≤ r ∧ r ≤ 8207) ∨ (8232 ≤ r ∧ r ≤ 8239) ∨ (8287 ≤ r ∧ r ≤ 8303) ∨ r = 65279 ∨ (65529 ≤ r ∧ r ≤ 65531) ∨ (917505 ≤ r ∧ r ≤ 917631)

theorem un_nonchar {r : Int} (h0 : 0 ≤ r) (h1 : r ≤ 1114111) (h2 : 65534 ≤ r % 65536) : unprintR r = true := by
  by_cases a : r < 65536
  · exact no_end16 (by omega) a
  by_cases b : r < 131072
  · exact un_1fffe (by omega) (by omega)
  by_cases c : r < 196608
  · exact un_2fffe (by omega) (by omega)
  by_cases d : r < 917760
  · exact un_tags (by omega) (by omega)
  · exact no_end32 (by omega)

theorem esc_un {r : Int} (h : Esc r) : unprintR r = true := by
  rcases h with h | h | h | h | h | h | h | h | h | h | h | h
  · exact un_pua h.1 h.2
  · exact no_end32 (by omega)
  · exact un_fdd0 h.1 h.2
  · exact un_nonchar h.1 h.2.1 h.2.2
  · rw [h]; exact un_1680
  · rw [h]; exact un_3000
  · exact un_2000 (by omega) (by omega)
  · exact un_2028 (by omega) (by omega)
  · exact un_205f (by omega) (by omega)
  · exact un_feff (by omega) (by omega)
  · exact un_fff9 (by omega) (by omega)
  · exact un_tags (by omega) (by omega)

/-- The runes that the law calls printed. -/
def Prn (r : Int) : Prop := (768 ≤ r ∧ r ≤ 879) ∨ (1024 ≤ r ∧ r ≤ 1279) ∨ (13312 ≤ r ∧ r ≤ 40959) ∨ (44032 ≤ r ∧ r ≤ 55203) ∨ (128512 ≤ r ∧ r ≤ 128591)

theorem prn_is {r : Int} (h : Prn r) : unprintR r = false := by
  rcases h with ⟨h1, h2⟩ | ⟨h1, h2⟩ | ⟨h1, h2⟩ | ⟨h1, h2⟩ | ⟨h1, h2⟩
  · exact yes16 (k := 2) (pre := 126) (lo := 161) (hi := 887) (by omega) (by omega) (by decide +kernel) (by decide +kernel) (by decide +kernel) (by omega) (by omega) (by omega) (by omega) (by omega) (none16 768 879 (by decide +kernel) h1 h2)
  · exact yes16 (k := 6) (pre := 895) (lo := 900) (hi := 1366) (by omega) (by omega) (by decide +kernel) (by decide +kernel) (by decide +kernel) (by omega) (by omega) (by omega) (by omega) (by omega) (none16 1024 1279 (by decide +kernel) h1 h2)
  · exact yes16 (k := 328) (pre := 12773) (lo := 12783) (hi := 42124) (by omega) (by omega) (by decide +kernel) (by decide +kernel) (by decide +kernel) (by omega) (by omega) (by omega) (by omega) (by omega) (none16 13312 40959 (by decide +kernel) h1 h2)
  · exact yes16 (k := 376) (pre := 44025) (lo := 44032) (hi := 55203) (by omega) (by omega) (by decide +kernel) (by decide +kernel) (by decide +kernel) (by omega) (by omega) (by omega) (by omega) (by omega) (none16 44032 55203 (by decide +kernel) h1 h2)
  · exact yes32 (k := 502) (pre := 127589) (lo := 127744) (hi := 128728) (by omega) (by omega) (by decide +kernel) (by decide +kernel) (by decide +kernel) (by omega) (by omega) (by omega) (by omega) (by omega) (none32 62976 63055 (by decide +kernel) (by omega) (by omega))

/-! ### 'r & 0xFFFE' -/
theorem and_fffe (x : Nat) : x &&& 65534 = 2 * ((x / 2) % 32768) := by
  apply Nat.eq_of_testBit_eq
  intro i
  rw [Nat.testBit_and]
  cases i with
  | zero =>
    have h : (65534 : Nat).testBit 0 = false := by decide
    have h2 : (2 * ((x / 2) % 32768)).testBit 0 = false := by rw [Nat.testBit_zero]; simp
    rw [h, h2]; simp
  | succ i =>
    rw [Nat.testBit_succ, Nat.testBit_succ, Nat.testBit_succ, show 65534 / 2 = 2 ^ 15 - 1 by decide, show 2 * ((x / 2) % 32768) / 2 = (x / 2) % 2 ^ 15 by omega, Nat.testBit_mod_two_pow, Nat.testBit_two_pow_sub_one]
    exact Bool.and_comm _ _
end Go.Proofs.Qxb6613423aDoor
