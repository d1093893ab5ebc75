/-
  THE WALK of 'asciiFoldIs' (function 26).
-/
import Derived.Test.Qxb6606343aDoorProg
import Derived.WalkKit
import Derived.WalkSpells
import Derived.WalkLawsBesides
namespace Go.Proofs.Qxb6606343aDoor
open Go.RowKit

/-- The byte, an ASCII capital as its small letter. -/
def lowB (c : UInt8) : Nat := if 65 ≤ c.toNat ∧ c.toNat ≤ 90 then c.toNat + 32 else c.toNat
/-- s is the word l in any ASCII case. -/
def foldIs (s l : List UInt8) : Bool := s.map lowB == l.map UInt8.toNat

theorem take_snoc (s : ByteArray) (k : Nat) (h : k < s.size) : s.data.toList.take (k + 1) = s.data.toList.take k ++ [s[k]] := by
  rw [List.take_succ_eq_append_getElem (by simpa using h)]; rfl
theorem take_all (s : ByteArray) : s.data.toList.take s.size = s.data.toList := List.take_of_length_le (by simp)

theorem fold_snoc (s l : ByteArray) (k : Nat) (hs : k < s.size) (hl : k < l.size) (h : (s.data.toList.take k).map lowB = (l.data.toList.take k).map UInt8.toNat) (e : lowB s[k] = l[k].toNat) :
    (s.data.toList.take (k + 1)).map lowB = (l.data.toList.take (k + 1)).map UInt8.toNat := by
  rw [take_snoc s k hs, take_snoc l k hl, List.map_append, List.map_append, h]
  simp [e]
theorem fold_no (s l : ByteArray) (k : Nat) (hs : k < s.size) (hl : k < l.size) (e : lowB s[k] ≠ l[k].toNat) : foldIs s.data.toList l.data.toList = false := by
  unfold foldIs
  rw [beq_eq_false_iff_ne]
  intro h
  have h1 := congrArg (·[k]?) h
  have a1 : s.data.toList[k]? = some s[k] := by rw [List.getElem?_eq_getElem (by simpa using hs)]; rfl
  have a2 : l.data.toList[k]? = some l[k] := by rw [List.getElem?_eq_getElem (by simpa using hl)]; rfl
  simp only [List.getElem?_map, a1, a2, Option.map_some, Option.some.injEq] at h1
  exact e h1
theorem fold_yes (s l : ByteArray) (hl : l.size = s.size) (h : (s.data.toList.take s.size).map lowB = (l.data.toList.take s.size).map UInt8.toNat) : foldIs s.data.toList l.data.toList = true := by
  rw [take_all, ← hl, take_all] at h
  unfold foldIs
  rw [h]; simp
theorem fold_len (s l : List UInt8) (h : l.length ≠ s.length) : foldIs s l = false := by
  unfold foldIs
  rw [beq_eq_false_iff_ne]
  intro e
  have := congrArg List.length e
  simp at this
  omega
theorem ret_bool {a b : Bool} (h : a = b) : Ending.returned (.bool a) = .returned (.bool b) := by rw [h]

theorem low_up {c : UInt8} (h1 : 65 ≤ (c.toNat : Int)) (h2 : (c.toNat : Int) ≤ 90) : lowB c = c.toNat + 32 := by
  unfold lowB; rw [if_pos (by omega)]
theorem low_hi {c : UInt8} (h2 : 90 < (c.toNat : Int)) : lowB c = c.toNat := by
  unfold lowB; rw [if_neg (by omega)]
theorem low_lo {c : UInt8} (h2 : (c.toNat : Int) < 65) : lowB c = c.toNat := by
  unfold lowB; rw [if_neg (by omega)]

set_option maxHeartbeats 400000 in
theorem fold_same (s l : ByteArray) (w : World) (hs : s.size ≤ 1048576) (hl : l.size = s.size) :
    Calls Tryd.prog 26 #[.string s, .string l] w fun e w' => e = .returned (.bool (foldIs s.data.toList l.data.toList)) ∧ w' = w := by
  go_enter Tryd.func26, Tryd.ntmps26
  go_wp2
  go_loop [5] (fun i => ∃ k : Nat, k ≤ s.size ∧ i = .int .i64 k ∧ Hid ((s.data.toList.take k).map lowB = (l.data.toList.take k).map UInt8.toNat)) (fun i => s.size - (intOf i).toNat)
  case atStart => exact ⟨0, Nat.zero_le _, rfl, (by simp : (s.data.toList.take 0).map lowB = (l.data.toList.take 0).map UInt8.toNat)⟩
  case round =>
    obtain ⟨k, hk, rfl, hrel⟩ := hrel
    by_cases hlt : k < s.size
    · go_wp2
      · have e : (↑s[k].toNat + 32 != (↑l[k].toNat : Int)) = true := by assumption
        go_ret
        exact ⟨ret_bool (fold_no s l k hlt (by omega) (by rw [low_up ‹_› ‹_›]; simp at e; omega)).symm, rfl⟩
      · have e : (↑s[k].toNat + 32 != (↑l[k].toNat : Int)) = false := by assumption
        exact ⟨⟨k + 1, by omega, by go_num, fold_snoc s l k hlt (by omega) hrel.out (by rw [low_up ‹_› ‹_›]; simp at e; omega)⟩, by simp [intOf]; omega⟩
      · have e : (↑s[k].toNat != (↑l[k].toNat : Int)) = true := by assumption
        go_ret
        exact ⟨ret_bool (fold_no s l k hlt (by omega) (by rw [low_hi ‹_›]; simp at e; omega)).symm, rfl⟩
      · have e : (↑s[k].toNat != (↑l[k].toNat : Int)) = false := by assumption
        exact ⟨⟨k + 1, by omega, by go_num, fold_snoc s l k hlt (by omega) hrel.out (by rw [low_hi ‹_›]; simp at e; omega)⟩, by simp [intOf]; omega⟩
      · have e : (↑s[k].toNat != (↑l[k].toNat : Int)) = true := by assumption
        go_ret
        exact ⟨ret_bool (fold_no s l k hlt (by omega) (by rw [low_lo ‹_›]; simp at e; omega)).symm, rfl⟩
      · have e : (↑s[k].toNat != (↑l[k].toNat : Int)) = false := by assumption
        exact ⟨⟨k + 1, by omega, by go_num, fold_snoc s l k hlt (by omega) hrel.out (by rw [low_lo (by omega)]; simp at e; omega)⟩, by simp [intOf]; omega⟩
    · go_wp2
      go_ret
      obtain rfl : k = s.size := by omega
      exact ⟨ret_bool (fold_yes s l hl hrel.out).symm, rfl⟩

theorem fold_any (s l : ByteArray) (w : World) (hs : s.size ≤ 1048576) :
    Calls Tryd.prog 26 #[.string s, .string l] w fun e w' => e = .returned (.bool (foldIs s.data.toList l.data.toList)) ∧ w' = w := by
  by_cases hl : l.size = s.size
  · exact fold_same s l w hs hl
  · have hne : ((s.size : Int) != l.size) = true := by rw [bne_iff_ne]; omega
    have hf : foldIs s.data.toList l.data.toList = false := fold_len _ _ (by simpa using hl)
    go_enter Tryd.func26, Tryd.ntmps26
    go_wp2
    go_ret
    exact ⟨ret_bool hf.symm, rfl⟩
end Go.Proofs.Qxb6606343aDoor
