/-
  THE WALKS of seat b6613423aD: unprintable (8), ZZunprintable (5), the two classes (6, 7), the two laws (3, 4).
-/
import Derived.Test.Qxb6613423aDoorPlain
import Derived.Test.Qxb6613423aDoorShelf
import Derived.WalkKit
import Derived.WalkSpells
import Derived.WalkLawsBesides
namespace Go.Proofs.Qxb6613423aDoor
open Go.RowKit

theorem ret_bool {a b : Bool} (h : a = b) : Ending.returned (.bool a) = .returned (.bool b) := by rw [h]

/-- The tables of strconv.IsPrint lie in their variables. -/
def Tabs (w : World) : Prop := Lib.PrintTabsAt 0 1 2 3 Lib.goPrintTabs w

set_option maxHeartbeats 400000 in
theorem unprint_any (r : Int) (w : World) (hlo : -2147483648 ≤ r) (hhi : r ≤ 2147483647) (hT : Hid (Tabs w)) :
    Calls Tryd.prog 8 #[.int .i32 r] w fun e w' => e = .returned (.bool (unprintR r)) ∧ Below w.heap.size w w' := by
  by_cases h : r = 65533
  · have hb : (r == 65533) = true := by simp [h]
    have hu : Hid (unprintR r = true) := by rw [h]; exact un_fffd
    clear h
    go_enter Tryd.func8, Tryd.ntmps8
    go_wp2
    go_ret
    exact ⟨ret_bool hu.out.symm, Below.refl _ _⟩
  · have hb : (r == 65533) = false := by simp [h]
    have hu : Hid (unprintR r = !Lib.isPrintR Lib.goPrintTabs r) := by show unprintR r = _; unfold unprintR; simp [h]
    clear h
    go_enter Tryd.func8, Tryd.ntmps8
    go_wp2_with fail
    refine (Tryd.strconv_IsPrint Lib.goPrintTabs r w hlo hhi hT.out).mono ?_
    rintro e w1 ⟨rfl, q, rfl⟩
    go_wp2
    go_ret
    exact ⟨ret_bool hu.out.symm, below_drewN (Below.refl _ _) q⟩

theorem zz_is {x : Bool} (r : Int) (w : World) (hlo : -2147483648 ≤ r) (hhi : r ≤ 2147483647) (hT : Hid (Tabs w)) (hx : unprintR r = x) :
    Calls Tryd.prog 5 #[.int .i32 r] w fun e w' => e = .returned (.bool x) ∧ Below w.heap.size w w' := by
  subst hx
  go_enter Tryd.func5, Tryd.ntmps5
  go_wp2_with fail
  refine (unprint_any r w hlo hhi hT).mono ?_
  rintro e w1 ⟨rfl, hb⟩
  go_wp2
  go_ret
  exact ⟨rfl, hb⟩

set_option maxHeartbeats 400000 in
theorem latin_law (r : Int) (w : World) (hlo : -2147483648 ≤ r) (hhi : r ≤ 2147483647) (hT : Hid (Tabs w)) :
    Calls Tryd.prog 3 #[.int .i32 r] w fun e w' => e = .returned (.bool true) ∧ Below w.heap.size w w' := by
  by_cases h1 : r < 0
  · have c := zz_is r w hlo hhi hT (un_neg h1)
    go_enter Tryd.func3, Tryd.ntmps3
    go_wp2_with (go_at_call 5; refine c.mono ?_; rintro e w1 ⟨rfl, hb⟩)
    go_ret
    exact ⟨rfl, hb⟩
  by_cases h2 : 1114111 < r
  · have c := zz_is r w hlo hhi hT (un_high h2)
    go_enter Tryd.func3, Tryd.ntmps3
    go_wp2_with (go_at_call 5; refine c.mono ?_; rintro e w1 ⟨rfl, hb⟩)
    go_ret
    exact ⟨rfl, hb⟩
  by_cases h3 : 55296 ≤ r ∧ r ≤ 57343
  · have c := zz_is r w hlo hhi hT (un_surr h3.1 h3.2)
    obtain ⟨h3, h4⟩ := h3
    go_enter Tryd.func3, Tryd.ntmps3
    go_wp2_with (go_at_call 5; refine c.mono ?_; rintro e w1 ⟨rfl, hb⟩)
    go_ret
    exact ⟨rfl, hb⟩
  by_cases h5 : r = 65533
  · have c := zz_is r w hlo hhi hT (h5 ▸ un_fffd)
    subst h5
    clear h1 h2 h3
    go_enter Tryd.func3, Tryd.ntmps3
    go_wp2_with (go_at_call 5; refine c.mono ?_; rintro e w1 ⟨rfl, hb⟩)
    go_ret
    exact ⟨rfl, hb⟩
  have hb5 : (r == 65533) = false := by simp [h5]
  by_cases h6 : r ≤ 255
  · have hl := un_latin (r := r) (by omega) h6
    clear h5 h3 h2
    cases hu : unprintR r with
    | true =>
      rw [hu] at hl
      have hl' := hl.1 rfl
      have c := zz_is r w hlo hhi hT hu
      clear hl hu
      go_enter Tryd.func3, Tryd.ntmps3
      go_wp2_with (go_at_call 5; refine c.mono ?_; rintro e w1 ⟨rfl, hb⟩)
      all_goals first
        | (exfalso; omega)
        | (go_ret; exact ⟨rfl, hb⟩)
        | (go_ret; exact ⟨ret_bool (by rw [beq_iff_eq]; omega), hb⟩)
        | (go_ret; exact ⟨ret_bool (by rw [Bool.not_eq_true', beq_eq_false_iff_ne]; omega), hb⟩)
    | false =>
      rw [hu] at hl
      have hl' : ¬ (r < 32 ∨ (127 ≤ r ∧ r ≤ 159) ∨ r = 160 ∨ r = 173) := fun h => by cases hl.2 h
      have c := zz_is r w hlo hhi hT hu
      clear hl hu
      go_enter Tryd.func3, Tryd.ntmps3
      go_wp2_with (go_at_call 5; refine c.mono ?_; rintro e w1 ⟨rfl, hb⟩)
      all_goals first
        | (exfalso; omega)
        | (go_ret; exact ⟨rfl, hb⟩)
        | (go_ret; exact ⟨ret_bool (by rw [beq_iff_eq]; omega), hb⟩)
        | (go_ret; exact ⟨ret_bool (by rw [Bool.not_eq_true', beq_eq_false_iff_ne]; omega), hb⟩)
  · have c := zz_is r w hlo hhi hT rfl
    generalize unprintR r = u at *
    go_enter Tryd.func3, Tryd.ntmps3
    go_wp2_with (go_at_call 5; refine c.mono ?_; rintro e w1 ⟨rfl, hb⟩)
    all_goals first
      | (exfalso; omega)
      | (go_ret; exact ⟨rfl, hb⟩)

/-- 'r & 0xFFFE' of a rune that is not negative. -/
theorem bits_fffe (x : Nat) (hx : x < 2147483648) : bits .and .i32 (x : Int) 65534 = 2 * (((x : Int) / 2) % 32768) := by
  show IntKind.i32.wrap ((BitVec.ofInt 32 (x : Int) &&& BitVec.ofInt 32 65534).toNat : Int) = _
  have h1 : (BitVec.ofInt 32 (x : Int)).toNat = x := by
    rw [BitVec.ofInt_natCast, BitVec.toNat_ofNat]; exact Nat.mod_eq_of_lt (by omega)
  have h2 : (BitVec.ofInt 32 65534).toNat = 65534 := by decide
  rw [BitVec.toNat_and, h1, h2, and_fffe]
  have h3 : ∀ n : Int, 0 ≤ n → n < 2147483648 → IntKind.i32.wrap n = n := by
    intro n h0 h1
    simp [IntKind.wrap, IntKind.bits, IntKind.signed]
    split <;> omega
  rw [h3 _ (by omega) (by omega)]
  omega

/-- A bool comes back; true only where p holds. -/
def OnlyIf (p : Prop) (e : Ending) : Prop := ∃ B, e = .returned (.bool B) ∧ (B = true → p)
theorem onlyIf_false {p : Prop} : OnlyIf p (.returned (.bool false)) := ⟨false, rfl, fun h => by cases h⟩
theorem onlyIf_true {p : Prop} (h : p) : OnlyIf p (.returned (.bool true)) := ⟨true, rfl, fun _ => h⟩

set_option maxHeartbeats 1000000 in
set_option maxRecDepth 100000 in
theorem esc_any (r : Int) (w : World) (hlo : -2147483648 ≤ r) (hhi : r ≤ 2147483647) :
    Calls Tryd.prog 6 #[.int .i32 r] w fun e w' => OnlyIf (Esc r) e ∧ w' = w := by
  by_cases h0 : 0 ≤ r
  · obtain ⟨x, rfl⟩ : ∃ x : Nat, r = x := ⟨r.toNat, by omega⟩
    have hb := bits_fffe x (by omega)
    go_enter Tryd.func6, Tryd.ntmps6
    go_wp2
    all_goals first
      | (go_ret; exact ⟨onlyIf_false, rfl⟩)
      | (go_ret; refine ⟨onlyIf_true ?_, rfl⟩; unfold Esc; first | omega | (simp only [beq_iff_eq] at *; omega))
  · go_enter Tryd.func6, Tryd.ntmps6
    go_wp2
    all_goals first
      | (go_ret; exact ⟨onlyIf_false, rfl⟩)
      | (exfalso; (try simp only [beq_iff_eq] at *); omega)

set_option maxHeartbeats 1000000 in
theorem prn_any (r : Int) (w : World) :
    Calls Tryd.prog 7 #[.int .i32 r] w fun e w' => OnlyIf (Prn r) e ∧ w' = w := by
  go_enter Tryd.func7, Tryd.ntmps7
  go_wp2
  all_goals first
    | (go_ret; exact ⟨onlyIf_false, rfl⟩)
    | (go_ret; exact ⟨onlyIf_true (by unfold Prn; omega), rfl⟩)

set_option maxHeartbeats 400000 in
theorem class_law (r : Int) (w : World) (hlo : -2147483648 ≤ r) (hhi : r ≤ 2147483647) (hT : Hid (Tabs w)) :
    Calls Tryd.prog 4 #[.int .i32 r] w fun e w' => e = .returned (.bool true) ∧ Below w.heap.size w w' := by
  have c := zz_is r w hlo hhi hT rfl
  go_enter Tryd.func4, Tryd.ntmps4
  go_wp2_with fail
  refine c.mono ?_
  rintro e w1 ⟨rfl, hb⟩
  clear c
  go_wp2_with fail
  refine (esc_any r _ hlo hhi).mono ?_
  rintro e w2 ⟨⟨B, rfl, hB⟩, rfl⟩
  cases B with
  | true =>
    have hu := esc_un (hB rfl)
    clear hB
    go_wp2
    go_ret
    exact ⟨rfl, hb⟩
  | false =>
    clear hB
    go_wp2_with fail
    refine (prn_any r _).mono ?_
    rintro e w3 ⟨⟨B, rfl, hB⟩, rfl⟩
    cases B with
    | true =>
      have hu := prn_is (hB rfl)
      clear hB
      go_wp2
      go_ret
      exact ⟨rfl, hb⟩
    | false =>
      clear hB
      go_wp2
      go_ret
      exact ⟨rfl, hb⟩
end Go.Proofs.Qxb6613423aDoor
