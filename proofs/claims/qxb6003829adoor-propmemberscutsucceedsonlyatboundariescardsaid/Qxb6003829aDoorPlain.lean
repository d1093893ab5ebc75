/-
  THE PLAIN LAW of seat b6003829aD: archives as lists of bytes. No Go text, no program here.
-/
import Derived.Lib.ItoaNum
import Derived.Lib.AtoiTie
import Derived.Lib.Space
namespace Go.Proofs.Qxb6003829aDoor
open Go.Lib

/-! ### decimal digits -/
theorem digitVal_of (k : Nat) (h : k < 10) : digitVal (UInt8.ofNat (48 + k)) = some k := by
  have : ∀ k : Fin 10, digitVal (UInt8.ofNat (48 + k.val)) = some k.val := by decide +kernel
  exact this ⟨k, h⟩
theorem digit_range (k : Nat) (h : k < 10) : 48 ≤ (UInt8.ofNat (48 + k)).toNat ∧ (UInt8.ofNat (48 + k)).toNat ≤ 57 := by
  have : ∀ k : Fin 10, 48 ≤ (UInt8.ofNat (48 + k.val)).toNat ∧ (UInt8.ofNat (48 + k.val)).toNat ≤ 57 := by decide +kernel
  exact this ⟨k, h⟩
theorem decFrom_snoc : ∀ (l : List UInt8) (acc n d : Nat) (c : UInt8), decFrom acc l = some n → digitVal c = some d → decFrom acc (l ++ [c]) = some (n * 10 + d)
  | [], acc, n, d, c, h, hc => by
    simp only [decFrom, Option.some.injEq] at h
    subst h
    simp [decFrom, hc]
  | b :: r, acc, n, d, c, h, hc => by
    rw [decFrom] at h
    rw [List.cons_append, decFrom]
    cases hb : digitVal b with
    | none => rw [hb] at h; cases h
    | some v => rw [hb] at h; exact decFrom_snoc r _ n d c h hc
theorem decFrom_digits (n : Nat) : decFrom 0 (decDigits n) = some n := by
  induction n using Nat.strongRecOn with
  | _ n ih =>
    rw [decDigits]
    by_cases h : n < 10
    · rw [dif_pos h, decFrom, digitVal_of n h]
      simp [decFrom]
    · rw [dif_neg h, decFrom_snoc _ _ _ _ _ (ih (n / 10) (by omega)) (digitVal_of (n % 10) (by omega))]
      congr 1
      omega
theorem digits_ne (n : Nat) : decDigits n ≠ [] := by
  rw [decDigits]
  by_cases h : n < 10
  · rw [dif_pos h]; simp
  · rw [dif_neg h]; simp
theorem digits_range (n : Nat) : ∀ b ∈ decDigits n, 48 ≤ b.toNat ∧ b.toNat ≤ 57 := by
  induction n using Nat.strongRecOn with
  | _ n ih =>
    rw [decDigits]
    by_cases h : n < 10
    · rw [dif_pos h]
      intro b hb
      simp only [List.mem_singleton] at hb
      subst hb
      exact digit_range n h
    · rw [dif_neg h]
      intro b hb
      rcases List.mem_append.1 hb with hb | hb
      · exact ih (n / 10) (by omega) b hb
      · simp only [List.mem_singleton] at hb
        subst hb
        exact digit_range _ (by omega)
theorem digits_len (k : Nat) : ∀ n, n < 10 ^ (k + 1) → (decDigits n).length ≤ k + 1 := by
  induction k with
  | zero => intro n h; rw [decDigits, dif_pos (by simpa using h)]; simp
  | succ k ih =>
    intro n h
    rw [decDigits]
    by_cases h10 : n < 10
    · rw [dif_pos h10]; simp
    · rw [dif_neg h10, List.length_append]
      have := ih (n / 10) (by rw [Nat.pow_succ] at h; omega)
      simp
      omega
theorem digits_short {n : Nat} (h : n ≤ 65536) : (decDigits n).length ≤ 5 := digits_len 4 n (by omega)

theorem atoi_digits {n : Nat} (h : n ≤ 65536) : atoiAll (decDigits n) = .ok (n : Int) := by
  have hs := digits_short h
  rw [atoiAll_short _ (by omega)]
  have hd : decNat (decDigits n) = some n := by
    unfold decNat
    rw [if_neg (by simpa using digits_ne n), decFrom_digits]
  cases e : decDigits n with
  | nil => exact absurd e (digits_ne n)
  | cons b r =>
    have hr := digits_range n b (by rw [e]; simp)
    have h45 : (b == 45) = false := by rw [beq_eq_false_iff_ne]; intro hb; subst hb; exact absurd hr (by decide)
    have h43 : (b == 43) = false := by rw [beq_eq_false_iff_ne]; intro hb; subst hb; exact absurd hr (by decide)
    rw [e] at hd
    simp [atoi, h45, h43, hd, NumEnd.ofOption]

/-! ### the size field -/
theorem digit_not_space {b : UInt8} (h : 48 ≤ b.toNat ∧ b.toNat ≤ 57) : isSp b = false := by
  have : ∀ b : Fin 256, 48 ≤ b.val → isSp (UInt8.ofNat b.val) = false ∨ 57 < b.val := by decide +kernel
  rcases this ⟨b.toNat, b.toNat_lt⟩ h.1 with hh | hh
  · simpa using hh
  · simp at hh; omega
theorem dropWhile_blanks (ds : List UInt8) (hd : ∀ b ∈ ds, isSp b = false) : ∀ a, (List.replicate a 32 ++ ds).dropWhile isSp = ds
  | 0 => by
    cases ds with
    | nil => rfl
    | cons b r => simp [hd b (by simp)]
  | a + 1 => by
    rw [List.replicate_succ, List.cons_append, List.dropWhile_cons_of_pos (by decide)]
    exact dropWhile_blanks ds hd a
theorem trim_left (ds : List UInt8) (a : Nat) (hd : ∀ b ∈ ds, isSp b = false) : trimSpace (List.replicate a 32 ++ ds) = ds := by
  unfold trimSpace
  rw [dropWhile_blanks ds hd a]
  have := dropWhile_blanks ds.reverse (fun b hb => hd b (by simpa using hb)) 0
  simp only [List.replicate_zero, List.nil_append] at this
  rw [this, List.reverse_reverse]
theorem trim_right (ds : List UInt8) (a : Nat) (hd : ∀ b ∈ ds, isSp b = false) (hne : ds ≠ []) : trimSpace (ds ++ List.replicate a 32) = ds := by
  unfold trimSpace
  have h1 : (ds ++ List.replicate a 32).dropWhile isSp = ds ++ List.replicate a 32 := by
    cases ds with
    | nil => exact absurd rfl hne
    | cons b r => simp [hd b (by simp)]
  rw [h1, List.reverse_append, List.reverse_replicate, dropWhile_blanks ds.reverse (fun b hb => hd b (by simpa using hb)) a, List.reverse_reverse]

/-- What a parse's end comes to as a size. -/
def ofEnd : NumEnd Int → Option Nat
  | .ok v => if v < 0 then none else some v.toNat
  | _ => none
/-- The size that an ASCII field states. -/
def szA (f : List UInt8) : Option Nat := ofEnd (atoiAll (trimSpace f))

/-- The field as the encoder writes it. -/
def sizeField (n : Nat) (left : Bool) : List UInt8 := if left then List.replicate (10 - (decDigits n).length) 32 ++ decDigits n else decDigits n ++ List.replicate (10 - (decDigits n).length) 32

theorem sizeField_len {n : Nat} (left : Bool) (h : n ≤ 65536) : (sizeField n left).length = 10 := by
  have := digits_short h
  unfold sizeField
  split <;> simp <;> omega
theorem szA_field {n : Nat} (left : Bool) (h : n ≤ 65536) : szA (sizeField n left) = some n := by
  have hd : ∀ b ∈ decDigits n, isSp b = false := fun b hb => digit_not_space (digits_range n b hb)
  have ht : trimSpace (sizeField n left) = decDigits n := by
    unfold sizeField
    split
    · exact trim_left _ _ hd
    · exact trim_right _ _ hd (digits_ne n)
  unfold szA
  rw [ht, atoi_digits h]
  simp [ofEnd]
theorem sizeField_ascii (n : Nat) (left : Bool) : ∀ b ∈ sizeField n left, b.toNat < 128 := by
  intro b hb
  have : b ∈ decDigits n ∨ b = 32 := by
    unfold sizeField at hb
    split at hb
    · rcases List.mem_append.1 hb with h | h
      · exact .inr (List.eq_of_mem_replicate h)
      · exact .inl h
    · rcases List.mem_append.1 hb with h | h
      · exact .inl h
      · exact .inr (List.eq_of_mem_replicate h)
  rcases this with h | h
  · have := digits_range n b h; omega
  · subst h; decide

/-! ### l without the blanks at its end -/
def rtrim (l : List UInt8) : List UInt8 := (l.reverse.dropWhile (· == 32)).reverse

theorem rtrim_snoc_blank (l : List UInt8) : rtrim (l ++ [32]) = rtrim l := by
  unfold rtrim
  rw [List.reverse_append]
  simp
theorem rtrim_snoc_other (l : List UInt8) (c : UInt8) (h : c ≠ 32) : rtrim (l ++ [c]) = l ++ [c] := by
  unfold rtrim
  rw [List.reverse_append]
  have : (c == 32) = false := by simpa using h
  simp [this]
theorem rtrim_nil : rtrim [] = [] := rfl
theorem rtrim_blanks (l : List UInt8) : ∀ n, rtrim (l ++ List.replicate n 32) = rtrim l
  | 0 => by simp
  | n + 1 => by rw [List.replicate_succ', ← List.append_assoc, rtrim_snoc_blank, rtrim_blanks l n]
theorem rtrim_prefix' : ∀ (n : Nat) (l : List UInt8), l.length = n → ∃ k, rtrim l = l.take k ∧ k ≤ l.length
  | 0, l, h => by
    obtain rfl : l = [] := List.eq_nil_of_length_eq_zero h
    exact ⟨0, rfl, Nat.le_refl _⟩
  | n + 1, l, h => by
    rcases List.eq_nil_or_concat l with hn | ⟨r, c, hn⟩
    · rw [hn] at h; simp at h
    · rw [List.concat_eq_append] at hn
      subst hn
      by_cases hc : c = 32
      · subst hc
        obtain ⟨k, hk, hl⟩ := rtrim_prefix' n r (by simpa using h)
        exact ⟨k, by rw [rtrim_snoc_blank, hk, List.take_append_of_le_length hl], by simp; omega⟩
      · exact ⟨(r ++ [c]).length, by rw [rtrim_snoc_other r c hc, List.take_length], Nat.le_refl _⟩
theorem rtrim_prefix (l : List UInt8) : ∃ k, rtrim l = l.take k ∧ k ≤ l.length := rtrim_prefix' _ l rfl
theorem rtrim_take (l : List UInt8) : rtrim l = l.take (rtrim l).length := by
  obtain ⟨k, hk, hl⟩ := rtrim_prefix l
  rw [hk, List.length_take, Nat.min_eq_left hl]
theorem rtrim_le (l : List UInt8) : (rtrim l).length ≤ l.length := by
  obtain ⟨k, hk, hl⟩ := rtrim_prefix l
  rw [hk, List.length_take]
  omega

/-! ### members -/
/-- A member as the encoder takes it. -/
structure Mem where
  name : List UInt8
  data : List UInt8
  free : List UInt8
  pad : UInt8
  left : Bool

/-- Within the encoder's bounds. -/
def Mem.Ok (m : Mem) : Prop := m.name.length ≤ 16 ∧ (∀ c, m.name.getLast? = some c → c ≠ 32) ∧ m.data.length ≤ 65536 ∧ m.free.length ≤ 64

def nameField (m : Mem) : List UInt8 := m.name ++ List.replicate (16 - m.name.length) 32
def midField (m : Mem) : List UInt8 := if 34 ≤ m.free.length then m.free.take 32 else 48 :: List.replicate 31 32
def endField (m : Mem) : List UInt8 := if 34 ≤ m.free.length then (m.free.drop 32).take 2 else [96, 10]
/-- The 60 bytes of the header. -/
def hdrOf (m : Mem) : List UInt8 := nameField m ++ (midField m ++ (sizeField m.data.length m.left ++ endField m))
def padOf (m : Mem) : List UInt8 := if m.data.length % 2 = 1 then [m.pad] else []
def body (m : Mem) : List UInt8 := hdrOf m ++ (m.data ++ padOf m)
def magicB : List UInt8 := [33, 60, 97, 114, 99, 104, 62, 10]
/-- The archive of the first k members. -/
def arTo (ms : List Mem) (k : Nat) : List UInt8 := magicB ++ ((ms.take k).map body).flatten
def ar (ms : List Mem) : List UInt8 := arTo ms ms.length

theorem nameField_len {m : Mem} (h : m.Ok) : (nameField m).length = 16 := by have := h.1; unfold nameField; simp; omega
theorem midField_len (m : Mem) : (midField m).length = 32 := by unfold midField; split <;> simp; omega
theorem endField_len (m : Mem) : (endField m).length = 2 := by unfold endField; split <;> simp; omega
theorem hdr_len {m : Mem} (h : m.Ok) : (hdrOf m).length = 60 := by
  unfold hdrOf
  rw [List.length_append, List.length_append, List.length_append, nameField_len h, midField_len, sizeField_len _ h.2.2.1, endField_len]
theorem pad_len (m : Mem) : (padOf m).length = m.data.length % 2 := by unfold padOf; split <;> simp <;> omega
theorem body_len {m : Mem} (h : m.Ok) : (body m).length = 60 + m.data.length + m.data.length % 2 := by
  unfold body
  rw [List.length_append, List.length_append, hdr_len h, pad_len]
  omega
theorem arTo_succ {ms : List Mem} {k : Nat} (h : k < ms.length) : arTo ms (k + 1) = arTo ms k ++ body ms[k] := by
  unfold arTo
  rw [List.take_succ_eq_append_getElem h, List.map_append, List.flatten_append]
  simp
theorem arTo_len_succ {ms : List Mem} {k : Nat} (h : k < ms.length) (hok : ms[k].Ok) : (arTo ms (k + 1)).length = (arTo ms k).length + 60 + ms[k].data.length + ms[k].data.length % 2 := by
  rw [arTo_succ h, List.length_append, body_len hok]
  omega
theorem arTo_zero (ms : List Mem) : arTo ms 0 = magicB := by simp [arTo]
theorem arTo_prefix (ms : List Mem) (k : Nat) : ∃ r, ar ms = arTo ms k ++ r := by
  refine ⟨((ms.drop k).map body).flatten, ?_⟩
  unfold ar arTo
  rw [List.take_length, List.append_assoc, ← List.flatten_append, ← List.map_append, List.take_append_drop]
theorem arTo_len_mono (ms : List Mem) : ∀ (k n : Nat), k + n ≤ ms.length → (arTo ms k).length ≤ (arTo ms (k + n)).length
  | _, 0, _ => Nat.le_refl _
  | k, n + 1, h => by
    have h1 := arTo_len_mono ms k n (by omega)
    rw [← Nat.add_assoc, arTo_succ (by omega : k + n < ms.length), List.length_append]
    omega
theorem arTo_le {ms : List Mem} {j k : Nat} (h : j ≤ k) (hk : k ≤ ms.length) : (arTo ms j).length ≤ (arTo ms k).length := by
  have := arTo_len_mono ms j (k - j) (by omega)
  rwa [show j + (k - j) = k by omega] at this

theorem hdr_field {m : Mem} (h : m.Ok) : ((hdrOf m).drop 48).take 10 = sizeField m.data.length m.left := by
  have e1 := nameField_len h
  have e2 := midField_len m
  have e3 := sizeField_len (n := m.data.length) m.left h.2.2.1
  unfold hdrOf
  rw [← List.append_assoc, List.drop_append_of_le_length (by rw [List.length_append]; omega), List.drop_eq_nil_of_le (by rw [List.length_append]; omega), List.nil_append,
    List.take_append_of_le_length (by omega), List.take_of_length_le (by omega)]
theorem hdr_name {m : Mem} (h : m.Ok) : rtrim ((hdrOf m).take 16) = m.name := by
  have e1 := nameField_len h
  unfold hdrOf
  rw [List.take_append_of_le_length (by omega), List.take_of_length_le (by omega)]
  unfold nameField
  rw [rtrim_blanks]
  rcases List.eq_nil_or_concat m.name with hn | ⟨l, c, hn⟩
  · rw [hn]; rfl
  · rw [List.concat_eq_append] at hn
    rw [hn]
    exact rtrim_snoc_other l c (h.2.1 c (by rw [hn]; simp))

/-! ### what a reader of an archive comes to -/
def hdrAt (l : List UInt8) (off : Nat) : List UInt8 := (l.drop off).take 60
def fieldOf (h : List UInt8) : List UInt8 := (h.drop 48).take 10
/-- What the reader of the size field may answer ('none': an error): on an ASCII field it is settled. -/
def MS (h : List UInt8) (res : Option Nat) : Prop := (∀ b ∈ fieldOf h, b.toNat < 128) → res = szA (fieldOf h)

/-- A member that was read. -/
structure Got where
  name : List UInt8
  off : Nat
  len : Nat

/-- The member at off. -/
def Step (l : List UInt8) (off : Nat) (g : Got) : Prop := off + 60 + g.len ≤ l.length ∧ MS (hdrAt l off) (some g.len) ∧ g.off = off + 60 ∧ g.name = rtrim ((hdrAt l off).take 16)
/-- No member can be read at off. -/
def Fails (l : List UInt8) (off : Nat) : Prop := l.length < off + 60 ∨ ∃ res, MS (hdrAt l off) res ∧ ∀ n, res = some n → l.length < off + 60 + n
def nextOf (off : Nat) (g : Got) : Nat := off + 60 + g.len + g.len % 2
/-- The members L were read one behind the other, from off on; the next begins at off'. -/
def Chain (l : List UInt8) : Nat → List Got → Nat → Prop
  | off, [], off' => off = off'
  | off, g :: L, off' => off < l.length ∧ Step l off g ∧ Chain l (nextOf off g) L off'

theorem chain_snoc {l : List UInt8} {g : Got} : ∀ {L : List Got} {off off' : Nat}, Chain l off L off' → off' < l.length → Step l off' g → Chain l off (L ++ [g]) (nextOf off' g)
  | [], off, off', h, hl, hs => by
    have e : off = off' := h
    subst e
    exact ⟨hl, hs, rfl⟩
  | x :: L, off, off', h, hl, hs => ⟨h.1, h.2.1, chain_snoc h.2.2 hl hs⟩
theorem chain_le {l : List UInt8} : ∀ {L : List Got} {off off' : Nat}, Chain l off L off' → off ≤ l.length + 1 → off' ≤ l.length + 1
  | [], off, off', h, hl => by have e : off = off' := h; omega
  | x :: L, off, off', h, hl => chain_le h.2.2 (by have := h.2.1.1; unfold nextOf; omega)
theorem chain_len {l : List UInt8} : ∀ {L : List Got} {off off' : Nat}, Chain l off L off' → off + 60 * L.length ≤ off'
  | [], off, off', h => by have e : off = off' := h; simp; omega
  | x :: L, off, off', h => by have := chain_len h.2.2; unfold nextOf at this; simp; omega

/-- What a reader may answer: the members, or an error. -/
def Good (l : List UInt8) (L : List Got) : Prop := magicB <+: l ∧ ∃ off', Chain l 8 L off' ∧ l.length ≤ off'
def Bad (l : List UInt8) : Prop := ¬ magicB <+: l ∨ ∃ L off, Chain l 8 L off ∧ off < l.length ∧ Fails l off

/-! ### a cut of an encoded archive -/
/-- Member i of ms, as it must be read. -/
def gotOf (ms : List Mem) (i : Nat) (h : i < ms.length) : Got := ⟨ms[i].name, (arTo ms i).length + 60, ms[i].data.length⟩

theorem cut_hdr {ms : List Mem} {k i : Nat} (hi : i < ms.length) (hok : ms[i].Ok) (hk : (arTo ms i).length + 60 ≤ ((ar ms).take k).length) : hdrAt ((ar ms).take k) (arTo ms i).length = hdrOf ms[i] := by
  obtain ⟨r, hr⟩ := arTo_prefix ms (i + 1)
  rw [arTo_succ hi] at hr
  have hkl : (arTo ms i).length + 60 ≤ k := by rw [List.length_take] at hk; omega
  unfold hdrAt
  rw [List.drop_take, List.take_take, hr, List.append_assoc, List.drop_left, Nat.min_eq_left (by omega)]
  unfold body
  rw [List.append_assoc, List.take_append_of_le_length (by rw [hdr_len hok]; omega), List.take_of_length_le (by rw [hdr_len hok]; omega)]
theorem cut_ms {ms : List Mem} {k i : Nat} (hi : i < ms.length) (hok : ms[i].Ok) (hk : (arTo ms i).length + 60 ≤ ((ar ms).take k).length) {res : Option Nat} (h : MS (hdrAt ((ar ms).take k) (arTo ms i).length) res) : res = some ms[i].data.length := by
  rw [cut_hdr hi hok hk] at h
  have hf : fieldOf (hdrOf ms[i]) = sizeField ms[i].data.length ms[i].left := hdr_field hok
  unfold MS at h
  rw [hf] at h
  rw [h (sizeField_ascii _ _), szA_field _ hok.2.2.1]
theorem cut_step {ms : List Mem} {k i : Nat} (hi : i < ms.length) (hok : ms[i].Ok) {g : Got} (h : Step ((ar ms).take k) (arTo ms i).length g) : g = gotOf ms i hi ∧ nextOf (arTo ms i).length g = (arTo ms (i + 1)).length := by
  obtain ⟨h1, h2, h3, h4⟩ := h
  have e := cut_ms hi hok (by omega) h2
  rw [cut_hdr hi hok (by omega), hdr_name hok] at h4
  simp only [Option.some.injEq] at e
  constructor
  · obtain ⟨n, o, len⟩ := g
    simp only at h3 h4 e
    subst h3 h4 e
    rfl
  · unfold nextOf
    rw [arTo_len_succ hi hok, e]

/-- A chain over a cut of an encoded archive: the first members, in order. -/
theorem cut_chain {ms : List Mem} {k : Nat} (hok : ∀ (i : Nat) (h : i < ms.length), ms[i].Ok) : ∀ {L : List Got} {i off' : Nat}, i ≤ ms.length → Chain ((ar ms).take k) (arTo ms i).length L off' →
    ∃ j, j ≤ ms.length ∧ i + L.length = j ∧ off' = (arTo ms j).length ∧ ∀ (q : Nat) (hq : q < L.length) (hq' : i + q < ms.length), L[q] = gotOf ms (i + q) hq'
  | [], i, off', hi, h => ⟨i, hi, by simp, (show (arTo ms i).length = off' from h).symm, fun q hq => by simp at hq⟩
  | g :: L, i, off', hi, h => by
    obtain ⟨h1, h2, h3⟩ := h
    have hlt : i < ms.length := by
      rcases Nat.lt_or_ge i ms.length with hh | hh
      · exact hh
      · obtain rfl : i = ms.length := by omega
        rw [List.length_take] at h1
        have : (arTo ms ms.length).length = (ar ms).length := rfl
        omega
    obtain ⟨hg, hn⟩ := cut_step hlt (hok i hlt) h2
    rw [hn] at h3
    obtain ⟨j, hj, hjl, ho, hq⟩ := cut_chain hok (by omega) h3
    refine ⟨j, hj, by simp; omega, ho, fun q hql hq' => ?_⟩
    cases q with
    | zero => simpa using hg
    | succ q =>
      have := hq q (by simpa using hql) (by omega)
      simp only [List.getElem_cons_succ]
      rw [this]
      congr 1
      omega

/-- An encoded archive is read whole. -/
theorem ar_not_bad {ms : List Mem} (hok : ∀ (i : Nat) (h : i < ms.length), ms[i].Ok) : ¬ Bad (ar ms) := by
  have hl : (ar ms).take (ar ms).length = ar ms := List.take_length
  rintro (h | ⟨L, off, hc, hlt, hf⟩)
  · obtain ⟨r, hr⟩ := arTo_prefix ms 0
    exact h ⟨r, by rw [hr, arTo_zero]⟩
  · rw [← hl] at hc
    obtain ⟨j, hj, _, ho, _⟩ := cut_chain hok (i := 0) (Nat.zero_le _) hc
    have hjl : j < ms.length := by
      rcases Nat.lt_or_ge j ms.length with hh | hh
      · exact hh
      · obtain rfl : j = ms.length := by omega
        have : (arTo ms ms.length).length = (ar ms).length := rfl
        omega
    have h1 := arTo_len_succ hjl (hok j hjl)
    have h2 : (arTo ms (j + 1)).length ≤ (ar ms).length := arTo_le (by omega) (Nat.le_refl _)
    subst ho
    rcases hf with hf | ⟨res, hm, hn⟩
    · omega
    · rw [← hl] at hm
      have e := cut_ms hjl (hok j hjl) (by rw [hl]; omega) hm
      have := hn _ e
      omega

/-- What a cut gives, where it gives members at all. -/
theorem cut_good {ms : List Mem} (hok : ∀ (i : Nat) (h : i < ms.length), ms[i].Ok) {k : Nat} (hk : k ≤ (ar ms).length) {L : List Got} (h : Good ((ar ms).take k) L) :
    L.length ≤ ms.length ∧ (∀ (q : Nat) (_ : q < L.length) (hq' : q < ms.length), L[q] = gotOf ms q hq') ∧ k ≤ (arTo ms L.length).length ∧
      ((L.length = 0 ∧ k = 8) ∨ ∃ q, ∃ hq : q < ms.length, L.length = q + 1 ∧ (arTo ms q).length + 60 + ms[q].data.length ≤ k) := by
  obtain ⟨hm, off', hc, hl⟩ := h
  have hkl : ((ar ms).take k).length = k := by rw [List.length_take]; omega
  have hc' := hc
  obtain ⟨j, hj, hjl, ho, hq⟩ := cut_chain hok (i := 0) (Nat.zero_le _) hc
  have e : j = L.length := by omega
  subst e
  refine ⟨hj, fun q hql hq' => by have := hq q hql (by omega); rw [this]; congr 1; omega, by omega, ?_⟩
  by_cases h0 : L.length = 0
  · left
    refine ⟨h0, ?_⟩
    rw [h0, arTo_zero] at ho
    have h8 : 8 ≤ k := by
      have := hm.length_le
      rw [hkl] at this
      exact this
    have : magicB.length = 8 := rfl
    omega
  · right
    refine ⟨L.length - 1, by omega, by omega, ?_⟩
    -- the last step
    obtain ⟨r, g, hrg⟩ : ∃ r g, L = r ++ [g] := by
      rcases List.eq_nil_or_concat L with hn | ⟨r, g, hn⟩
      · rw [hn] at h0; simp at h0
      · exact ⟨r, g, by rw [hn, List.concat_eq_append]⟩
    have key : ∀ (r : List Got) (off : Nat), Chain ((ar ms).take k) off (r ++ [g]) off' → ∃ o, Step ((ar ms).take k) o g := by
      intro r
      induction r with
      | nil => intro off hh; exact ⟨_, hh.2.1⟩
      | cons x r ih => intro off hh; exact ih _ hh.2.2
    rw [hrg] at hc'
    obtain ⟨o, hs⟩ := key r 8 hc'
    have hlast := hq (L.length - 1) (by omega) (by omega)
    have hg : L[L.length - 1]'(by omega) = g := by
      have : ∀ (L : List Got) (h : L.length - 1 < L.length), L = r ++ [g] → L[L.length - 1]'h = g := by
        intro L h hh
        subst hh
        simp
      exact this L (by omega) hrg
    rw [hg] at hlast
    have h1 := hs.1
    have h3 := hs.2.2.1
    rw [hlast] at h1 h3
    simp only [gotOf, Nat.zero_add] at h1 h3
    rw [hkl] at h1
    omega

/-- The whole archive: every member. -/
theorem ar_good {ms : List Mem} (hok : ∀ (i : Nat) (h : i < ms.length), ms[i].Ok) {L : List Got} (h : Good (ar ms) L) : L.length = ms.length ∧ ∀ (q : Nat) (_ : q < L.length) (hq' : q < ms.length), L[q] = gotOf ms q hq' := by
  have hl : (ar ms).take (ar ms).length = ar ms := List.take_length
  rw [← hl] at h
  obtain ⟨h1, h2, h3, _⟩ := cut_good hok (Nat.le_refl _) h
  refine ⟨?_, h2⟩
  rcases Nat.lt_or_ge L.length ms.length with hh | hh
  · have e1 := arTo_len_succ hh (hok _ hh)
    have e2 : (arTo ms (L.length + 1)).length ≤ (ar ms).length := arTo_le (by omega) (Nat.le_refl _)
    omega
  · omega
end Go.Proofs.Qxb6003829aDoor
