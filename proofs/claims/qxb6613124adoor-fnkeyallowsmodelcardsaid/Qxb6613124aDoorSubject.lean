/-
  THE WALKS of the two subjects' methods: actionName (103, 104) and target (45, 101); matchAt (61, 41), index (62, 44).
-/
import Derived.Test.Qxb6613124aDoorTable
import Derived.Test.Qxb6613124aDoorShelf
import Derived.Deep.RegionWith
import Derived.Deep.QuietTactic
import Derived.BigQuiet
import Derived.Lib.QuietBelow
import Derived.Lib.IndexLaws
namespace Go.Proofs.Qxb6613124aDoor
open Go.RowKit

theorem lower_byte : (List.range 256).all (fun n => Lib.toLowerU (n : Int) == (lat n : Int)) = true := by kernel_rfl

/-- The library's table of cases lies in the world. -/
def Cases (w : World) : Prop := Lib.CaseVar 3 Lib.caseA w

theorem Cases.below {w w' : World} (h : Cases w) (hb : Below w.heap.size w w') : Cases w' := by
  have k : ∀ {a : Addr} {v : Value}, w.cell? a = some v → w'.cell? a = some v := fun {a v} hc => (hb.cell (World.block_lt_of_cell? w a hc)).trans hc
  obtain ⟨R, oR, cap, h1, h2⟩ := h
  exact ⟨R, oR, cap, k h1, fun i hi => ⟨k (h2 i hi).1, k (h2 i hi).2.1, k (h2 i hi).2.2.1, k (h2 i hi).2.2.2.1, k (h2 i hi).2.2.2.2⟩⟩

theorem lower_lat (n : Nat) (w0 w : World) (h : n < 256) (hV : Cases w0) (hB : Below w0.heap.size w0 w) : Calls Tryd.prog 105 #[.int .i32 n] w fun e w' => e = .returned (.int .i32 (lat n)) ∧ Below w0.heap.size w0 w' := by
  have h1 := Tryd.unicode_ToLower_laid n w (hV.below hB)
  have h2 := List.all_eq_true.1 lower_byte n (List.mem_range.2 h)
  rw [eq_of_beq h2] at h1
  refine h1.mono ?_
  rintro e w' ⟨he, q, rfl⟩
  exact ⟨he, hB.trans ⟨rfl, rfl, rfl, Nat.le_refl _, fun _ _ => rfl⟩⟩

set_option maxHeartbeats 400000 in
set_option maxRecDepth 100000 in
theorem alen (s : ByteArray) (w : World) : Calls Tryd.prog 103 #[.string s] w fun e w' => e = .returned (.int .i64 s.size) ∧ w' = w := by
  go_enter Tryd.func103, Tryd.ntmps103
  go_wp2
  go_ret
  exact ⟨rfl, rfl⟩

/-- The value of a target. -/
def tgt (s : ByteArray) (L : Nat) (g : ByteArray) (e : Bool) : Value := .agg #[.string s, .int .i64 L, .string g, .bool e]

set_option maxHeartbeats 400000 in
set_option maxRecDepth 100000 in
theorem tlen (s : ByteArray) (L : Nat) (g : ByteArray) (e : Bool) (w : World) (hs : s.size ≤ 1048576) (hL : L ≤ 1048576) : Calls Tryd.prog 45 #[.agg #[.string s, .int .i64 L, .string g, .bool e]] w fun e w' => e = .returned (.int .i64 (s.size + L : Nat)) ∧ Below w.heap.size w w' := by
  go_enter Tryd.func45, Tryd.ntmps45
  go_wp2
  go_ret
  exact ⟨ret_int (by omega), by exact (Below.refl _ _).alloc (Nat.le_refl _) _⟩

set_option maxHeartbeats 400000 in
set_option maxRecDepth 100000 in
theorem atakes (s : ByteArray) (i : Nat) (c : UInt8) (w : World) (hi : i < s.size) (hV : Hid (Cases w)) (any : Bool) :
    Calls Tryd.prog 104 #[.string s, .int .i64 i, .int .u8 c.toNat] w fun e w' => e = .returned (.bool (takeB true s.data.toList [] any i c)) ∧ Below w.heap.size w w' := by
  obtain ⟨x, hx⟩ : ∃ x : UInt8, s[i]'(by omega) = x := ⟨_, rfl⟩
  have hg := getD_at s i hi
  rw [hx] at hg
  have HE := hid (show takeB true s.data.toList [] any i c = (c.toNat == 63 || lat x.toNat == lat c.toNat) by unfold takeB; rw [if_pos rfl, hg])
  have hx256 : x.toNat < 256 := x.toNat_lt
  have hc256 : c.toNat < 256 := c.toNat_lt
  go_enter Tryd.func104, Tryd.ntmps104
  go_wp2_with (go_at_call 105; refine (lower_lat _ w _ (by assumption) hV.out (by first | exact Below.refl _ _ | assumption)).mono ?_; rintro e w1 ⟨rfl, hb1⟩)
  · have h : (c.toNat : Int) = 63 := by assumption
    have h' : c.toNat = 63 := by omega
    go_ret
    exact ⟨ret_bool (by rw [HE.out]; simp [h']), Below.refl _ _⟩
  · go_ret
    exact ⟨ret_bool (by rw [HE.out, show ((c.toNat : Int) == 63) = (c.toNat == 63) from beq_nat c.toNat 63, beq_nat]), hb1⟩

theorem has_index (l : List UInt8) (c : UInt8) : l.contains c = decide (0 ≤ Lib.indexByte l c) := by
  rw [Bool.eq_iff_iff, List.contains_iff_mem, decide_eq_true_iff]
  constructor
  · intro h
    obtain ⟨k, hk, e⟩ := List.getElem_of_mem h
    have h1 := Lib.indexByte_ge l c
    by_cases h2 : Lib.indexByte l c = -1
    · exact absurd (by rw [List.getElem?_eq_getElem hk, e]) (Lib.indexByte_none h2 k)
    · omega
  · intro h
    obtain ⟨o, ho⟩ : ∃ o : Nat, Lib.indexByte l c = o := ⟨(Lib.indexByte l c).toNat, by omega⟩
    exact List.mem_of_getElem? (Lib.indexByte_some ho).1

set_option maxHeartbeats 400000 in
set_option maxRecDepth 100000 in
theorem indexByte_any (s : ByteArray) (c : UInt8) (w : World) : Calls Tryd.prog 102 #[.string s, .int .u8 c.toNat] w fun e w' => e = .returned (.int .i64 (Lib.indexByte s.data.toList c)) ∧ w' = w := by
  go_enter Tryd.func102, Tryd.ntmps102
  go_wp2_with (go_at_call 75; refine (Tryd.stringslite_IndexByte s c.toNat _).mono ?_; rintro e w1 ⟨rfl, rfl⟩)
  go_ret
  exact ⟨by simp, rfl⟩

set_option maxHeartbeats 400000 in
set_option maxRecDepth 100000 in
theorem ttakes (s : ByteArray) (L : Nat) (g : ByteArray) (e : Bool) (i : Nat) (c : UInt8) (w : World) :
    Calls Tryd.prog 101 #[.agg #[.string s, .int .i64 L, .string g, .bool e], .int .i64 i, .int .u8 c.toNat] w fun x w' => x = .returned (.bool (takeB false s.data.toList g.data.toList (!e) i c)) ∧ Below w.heap.size w w' := by
  by_cases hlt : i < s.size
  · obtain ⟨x, hx⟩ : ∃ x : UInt8, s[i]'(by omega) = x := ⟨_, rfl⟩
    have hg := getD_at s i hlt
    rw [hx] at hg
    have HE := hid (show takeB false s.data.toList g.data.toList (!e) i c = (x == c) by unfold takeB; rw [if_neg (by simp), if_pos (by simpa using hlt), hg])
    go_enter Tryd.func101, Tryd.ntmps101
    go_wp2
    go_ret
    refine ⟨ret_bool ?_, (Below.refl _ _).alloc (Nat.le_refl _) _⟩
    rw [HE.out, beq_nat, beq_u8]
  · have HE := hid (show takeB false s.data.toList g.data.toList (!e) i c = (!e && hasB g.data.toList c) by unfold takeB; rw [if_neg (by simp), if_neg (by simpa using hlt)])
    cases e with
    | true =>
      go_enter Tryd.func101, Tryd.ntmps101
      go_wp2
      go_ret
      exact ⟨ret_bool (by rw [HE.out]; simp), (Below.refl _ _).alloc (Nat.le_refl _) _⟩
    | false =>
      go_enter Tryd.func101, Tryd.ntmps101
      go_wp2_with (go_at_call 102; refine (indexByte_any g c _).mono ?_; rintro e w1 ⟨rfl, rfl⟩)
      go_ret
      refine ⟨ret_bool ?_, (Below.refl _ _).alloc (Nat.le_refl _) _⟩
      rw [HE.out]
      unfold hasB
      rw [has_index]
      simp

/-- The text t stands in the subject from the place i on. -/
def matchB (tk : Nat → UInt8 → Bool) (n : Nat) (t : List UInt8) (i : Nat) : Bool := decide (i + t.length ≤ n) && (t.mapIdx fun q c => tk (i + q) c).all id

theorem matchB_iff (tk : Nat → UInt8 → Bool) (n : Nat) (t : List UInt8) (i : Nat) : matchB tk n t i = true ↔ i + t.length ≤ n ∧ Lit tk t i := by
  unfold matchB
  rw [Bool.and_eq_true, decide_eq_true_iff, lit_all]
theorem matchB_long (tk : Nat → UInt8 → Bool) (n : Nat) (t : List UInt8) (i : Nat) (h : ¬ i + t.length ≤ n) : matchB tk n t i = false := by
  rw [Bool.eq_false_iff, Ne, matchB_iff]
  exact fun hh => h hh.1
theorem matchB_no (tk : Nat → UInt8 → Bool) (n : Nat) (t : ByteArray) (i q : Nat) (hq : q < t.size) (h : tk (i + q) t[q] = false) : matchB tk n t.data.toList i = false := by
  rw [Bool.eq_false_iff, Ne, matchB_iff]
  intro hh
  have := hh.2 q (by simpa using hq)
  rw [show t.data.toList[q]'(by simpa using hq) = t[q] from rfl, h] at this
  cases this
theorem matchB_yes (tk : Nat → UInt8 → Bool) (n : Nat) (t : ByteArray) (i : Nat) (hn : i + t.size ≤ n) (h : ∀ (q : Nat) (hq : q < t.size), tk (i + q) t[q] = true) : matchB tk n t.data.toList i = true := by
  rw [matchB_iff]
  exact ⟨by simpa using hn, fun q hq => h q (by simpa using hq)⟩

theorem am_len (s : ByteArray) (w : World) : (method 262 102 (.string s) "example.com/ensec/ensec/internal/policy.len").run Tryd.prog w = .ok (103, .string s) w := by kernel_rfl
theorem am_takes (s : ByteArray) (w : World) : (method 262 102 (.string s) "example.com/ensec/ensec/internal/policy.takes").run Tryd.prog w = .ok (104, .string s) w := by kernel_rfl
theorem tm_len (s g : ByteArray) (L : Int) (e : Bool) (w : World) : (method 262 74 (.agg #[.string s, .int .i64 L, .string g, .bool e]) "example.com/ensec/ensec/internal/policy.len").run Tryd.prog w = .ok (45, .agg #[.string s, .int .i64 L, .string g, .bool e]) w := by kernel_rfl
theorem tm_takes (s g : ByteArray) (L : Int) (e : Bool) (w : World) : (method 262 74 (.agg #[.string s, .int .i64 L, .string g, .bool e]) "example.com/ensec/ensec/internal/policy.takes").run Tryd.prog w = .ok (101, .agg #[.string s, .int .i64 L, .string g, .bool e]) w := by kernel_rfl

set_option maxHeartbeats 400000 in
set_option maxRecDepth 100000 in
theorem amatch (s t : ByteArray) (i : Nat) (any : Bool) (w0 w : World) (hs : s.size ≤ 1048576) (ht : t.size ≤ 1048576) (hi : i ≤ 4194304) (hV : Hid (Cases w0)) (hB : Below w0.heap.size w0 w) :
    Calls Tryd.prog 61 #[.string s, .string t, .int .i64 i] w fun e w' => e = .returned (.bool (matchB (takeB true s.data.toList [] any) s.size t.data.toList i)) ∧ Below w0.heap.size w0 w' := by
  have hm1 := am_len s
  have hm2 := am_takes s
  by_cases hlen : i + t.size ≤ s.size
  · go_enter Tryd.func61, Tryd.ntmps61
    go_wp2_with (go_at_call 103; refine (alen s _).mono ?_; rintro e w1 ⟨rfl, rfl⟩)
    go_loopw [18] (fun sj wr => ∃ j : Nat, j ≤ t.size ∧ sj = .int .i64 j ∧ Hid (∀ (q : Nat) (hq : q < t.size), q < j → takeB true s.data.toList [] any (i + q) t[q] = true) ∧ Below w0.heap.size w0 wr) (fun j _ => t.size - (intOf j).toNat)
    case atStart => exact ⟨0, Nat.zero_le _, rfl, (by intro q _ h; omega : ∀ (q : Nat) (hq : q < t.size), q < 0 → takeB true s.data.toList [] any (i + q) t[q] = true), hB⟩
    case round =>
      obtain ⟨j, hj, rfl, hall, hBr⟩ := hrel
      by_cases hlt : j < t.size
      · obtain ⟨c, hc⟩ : ∃ c : UInt8, t[j]'(by omega) = c := ⟨_, rfl⟩
        obtain ⟨b, hb⟩ : ∃ b, takeB true s.data.toList [] any (i + j) c = b := ⟨_, rfl⟩
        have htk := atakes s (i + j) c wr (by omega) (hV.out.below hBr) any
        rw [hb] at htk
        have HB := hid hb
        clear hb
        cases b
        · go_wp2_with (go_at_call 104; refine htk.mono ?_; rintro e w1 ⟨rfl, hb1⟩)
          go_ret
          exact ⟨ret_bool (matchB_no _ _ t i j hlt (by rw [hc]; exact HB.out)).symm, hBr.trans (hb1.mono hBr.size)⟩
        · go_wp2_with (go_at_call 104; refine htk.mono ?_; rintro e w1 ⟨rfl, hb1⟩)
          refine ⟨⟨j + 1, by omega, by go_num, ?_, hBr.trans (hb1.mono hBr.size)⟩, by simp [intOf]; omega⟩
          have h : ∀ (q : Nat) (hq : q < t.size), q < j + 1 → takeB true s.data.toList [] any (i + q) t[q] = true := by
            intro q hq hqj
            by_cases e : q = j
            · subst e; rw [hc]; exact HB.out
            · exact hall.out q hq (by omega)
          exact h
      · obtain rfl : j = t.size := by omega
        go_wp2
        go_ret
        exact ⟨ret_bool (matchB_yes _ _ t i hlen (fun q hq => hall.out q hq hq)).symm, hBr⟩
  · have HM := hid (matchB_long (takeB true s.data.toList [] any) s.size t.data.toList i (by simpa using hlen))
    go_enter Tryd.func61, Tryd.ntmps61
    go_wp2_with (go_at_call 103; refine (alen s _).mono ?_; rintro e w1 ⟨rfl, rfl⟩)
    go_ret
    exact ⟨ret_bool HM.out.symm, hB⟩
end Go.Proofs.Qxb6613124aDoor
