/-
  THE WALKS of 'live' (20) and '(Value).indicator' (24): a struct of four cells handed over by value.
-/
import Derived.Test.Qxb6606343aDoorEqf
namespace Go.Proofs.Qxb6606343aDoor
open Go.RowKit

def wDEFAULT : List UInt8 := [68, 69, 70, 65, 85, 76, 84]
def wIGNORE : List UInt8 := [73, 71, 78, 79, 82, 69]
def wDefault : List UInt8 := [100, 101, 102, 97, 117, 108, 116]
def wIgnore : List UInt8 := [105, 103, 110, 111, 114, 101]

/-- The text stands for no expression: DEFAULT or IGNORE in any case. -/
def isInd (s : List UInt8) : Bool := foldIs s wDefault || foldIs s wIgnore
/-- The value must be evaluated. -/
def liveB (s : List UInt8) (c : Bool) : Bool := !c && !isInd s

theorem up_default (s : List UInt8) : foldUp s [68, 69, 70, 65, 85, 76, 84] = foldIs s [100, 101, 102, 97, 117, 108, 116] := rfl
theorem up_ignore (s : List UInt8) : foldUp s [73, 71, 78, 79, 82, 69] = foldIs s [105, 103, 110, 111, 114, 101] := rfl

set_option maxHeartbeats 400000 in
set_option maxRecDepth 100000 in
theorem live_any (s : ByteArray) (p : Int) (c a : Bool) (w : World) (hs : s.size ≤ 1048576) :
    Calls Tryd.prog 20 #[.agg #[.string s, .int .i64 p, .bool c, .bool a]] w fun e w' => e = .returned (.bool (liveB s.data.toList c)) ∧ Below w.heap.size w w' := by
  go_enter Tryd.func20, Tryd.ntmps20
  go_wp2_with (go_at_call 26; refine (fold_any _ _ _ hs).mono ?_; rintro e w1 ⟨rfl, rfl⟩)
  · have h : c = true := by assumption
    go_ret
    exact ⟨ret_bool (by simp [liveB, h]), (Below.refl _ _).alloc (Nat.le_refl _) _⟩
  · have h : ¬ c = true := by assumption
    have h2 : foldIs s.data.toList [100, 101, 102, 97, 117, 108, 116] = true := by assumption
    go_ret
    exact ⟨ret_bool (by simp [liveB, isInd, wDefault, h2]), (Below.refl _ _).alloc (Nat.le_refl _) _⟩
  · have h : ¬ c = true := by assumption
    have h2 : ¬ foldIs s.data.toList [100, 101, 102, 97, 117, 108, 116] = true := by assumption
    go_ret
    exact ⟨ret_bool (by simp [liveB, isInd, wDefault, wIgnore, h, h2]), (Below.refl _ _).alloc (Nat.le_refl _) _⟩

theorem word_default : Word ⟨#[68, 69, 70, 65, 85, 76, 84]⟩ := by
  have h : ∀ j : Fin 7, 65 ≤ (#[(68 : UInt8), 69, 70, 65, 85, 76, 84][j]).toNat ∧ (#[(68 : UInt8), 69, 70, 65, 85, 76, 84][j]).toNat ≤ 90 ∧ (#[(68 : UInt8), 69, 70, 65, 85, 76, 84][j]).toNat ≠ 75 ∧ (#[(68 : UInt8), 69, 70, 65, 85, 76, 84][j]).toNat ≠ 83 := by decide
  intro j hj
  exact h ⟨j, hj⟩
theorem word_ignore : Word ⟨#[73, 71, 78, 79, 82, 69]⟩ := by
  have h : ∀ j : Fin 6, 65 ≤ (#[(73 : UInt8), 71, 78, 79, 82, 69][j]).toNat ∧ (#[(73 : UInt8), 71, 78, 79, 82, 69][j]).toNat ≤ 90 ∧ (#[(73 : UInt8), 71, 78, 79, 82, 69][j]).toNat ≠ 75 ∧ (#[(73 : UInt8), 71, 78, 79, 82, 69][j]).toNat ≠ 83 := by decide
  intro j hj
  exact h ⟨j, hj⟩

theorem FoldTab.below {w w' : World} (h : FoldTab w) (hb : Below w.heap.size w w') (h0 : 0 < w.heap.size) : FoldTab w' := fun c h1 h2 h3 h4 =>
  ⟨(hb.cell (p := ⟨0, c, none⟩) h0).trans (h c h1 h2 h3 h4).1, (hb.cell (p := ⟨0, c + 32, none⟩) h0).trans (h c h1 h2 h3 h4).2⟩

set_option maxHeartbeats 400000 in
set_option maxRecDepth 100000 in
theorem ind_any (s : ByteArray) (p : Int) (c a : Bool) (w : World) (hs : s.size ≤ 1048576) (hT : Hid (FoldTab w)) (h0 : 0 < w.heap.size) :
    Calls Tryd.prog 24 #[.agg #[.string s, .int .i64 p, .bool c, .bool a]] w fun e w' => e = .returned (.bool (isInd s.data.toList)) ∧ Below w.heap.size w w' := by
  go_enter Tryd.func24, Tryd.ntmps24
  go_wp2_with fail
  refine (eqf_any s _ _ hs (by decide) word_default (hT.out.below ((Below.refl _ _).alloc (Nat.le_refl _) _) h0) (by simp)).mono ?_
  rintro e w1 ⟨rfl, hb⟩
  have hc := hb.cell (p := ⟨w.heap.size, 0, none⟩) (by simp)
  have hz := hb.size
  simp at hc hz
  have hB : Below w.heap.size w w1 := ((Below.refl _ _).alloc (Nat.le_refl _) _).trans (hb.mono (by simp))
  by_cases hd : foldUp s.data.toList [68, 69, 70, 65, 85, 76, 84] = true
  · have hi : isInd s.data.toList = true := by rw [up_default] at hd; simp [isInd, wDefault, hd]
    have HI : Hid (isInd s.data.toList = true) := hi
    clear hi
    go_wp2
    go_ret
    exact ⟨ret_bool HI.out.symm, hB⟩
  · have hi : isInd s.data.toList = foldUp s.data.toList [73, 71, 78, 79, 82, 69] := by rw [up_default] at hd; simp [isInd, wDefault, wIgnore, up_ignore, hd]
    have HI : Hid (isInd s.data.toList = foldUp s.data.toList [73, 71, 78, 79, 82, 69]) := hi
    clear hi
    go_wp2_with fail
    refine (eqf_any s _ _ hs (by decide) word_ignore (hT.out.below hB h0) (by omega)).mono ?_
    rintro e w2 ⟨rfl, hb2⟩
    go_wp2
    go_ret
    exact ⟨ret_bool HI.out.symm, hB.trans (hb2.mono (by omega))⟩
end Go.Proofs.Qxb6606343aDoor
