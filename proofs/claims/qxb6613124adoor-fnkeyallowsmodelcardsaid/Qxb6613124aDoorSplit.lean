/-
  THE WALKS of strings.Index at "*" (65, 68), strings.Cut at "*" (56, 40), strings.SplitSeq at "*" (43, 58) and its closure (66).
-/
import Derived.Test.Qxb6613124aDoorIndex
import Derived.Test.Qxb6613124aDoorRange
import Derived.Shelf.Abstract
import Derived.Shelf.RegionOpen
import Derived.OwnWalkIn
import Derived.TacticsInMore
import Derived.LoopNIn
import Derived.LoopIn
namespace Go.Proofs.Qxb6613124aDoor
open Go.RowKit Go.Shelf

abbrev star : ByteArray := ⟨#[42]⟩

set_option maxHeartbeats 400000 in
set_option maxRecDepth 100000 in
theorem sl_index (s : ByteArray) (w : World) : Calls Tryd.prog 65 #[.string s, .string ⟨#[42]⟩] w fun e w' => e = .returned (.int .i64 (Lib.indexByte s.data.toList 42)) ∧ w' = w := by
  go_enter Tryd.func65, Tryd.ntmps65
  go_wp2_with (go_at_call 75; refine (Tryd.stringslite_IndexByte s 42 _).mono ?_; rintro e w' ⟨rfl, rfl⟩)
  · have h : ([(42 : UInt8)] == s.toList) = true := by assumption
    go_ret
    refine ⟨?_, rfl⟩
    have e : s.data.toList = [42] := by rw [← Lib.toList_data]; exact (beq_iff_eq.1 h).symm
    rw [e]
    rfl
  · go_ret
    exact ⟨rfl, rfl⟩

set_option maxHeartbeats 400000 in
set_option maxRecDepth 100000 in
theorem st_index (s : ByteArray) (w : World) : Calls Tryd.prog 68 #[.string s, .string ⟨#[42]⟩] w fun e w' => e = .returned (.int .i64 (Lib.indexByte s.data.toList 42)) ∧ w' = w := by
  go_enter Tryd.func68, Tryd.ntmps68
  go_wp2_with (go_at_call 65; refine (sl_index s _).mono ?_; rintro e w' ⟨rfl, rfl⟩)
  go_ret
  exact ⟨rfl, rfl⟩

/-- The text before the first star, the text behind it, whether there is one. -/
def cutV (s : ByteArray) : Value := if Lib.indexByte s.data.toList 42 < 0 then .tuple #[.string s, .string ⟨#[]⟩, .bool false] else .tuple #[.string (s.extract 0 (Lib.indexByte s.data.toList 42).toNat), .string (s.extract ((Lib.indexByte s.data.toList 42).toNat + 1) s.size), .bool true]

theorem index_lt (l : List UInt8) (c : UInt8) : Lib.indexByte l c < l.length := by
  by_cases h : Lib.indexByte l c < 0
  · omega
  · obtain ⟨o, ho⟩ : ∃ o : Nat, Lib.indexByte l c = o := ⟨(Lib.indexByte l c).toNat, by omega⟩
    have := (Lib.indexByte_some ho).1
    have := (List.getElem?_eq_some_iff.1 this).1
    omega

set_option maxHeartbeats 400000 in
set_option maxRecDepth 100000 in
theorem sl_cut (s : ByteArray) (w : World) (hs : s.size ≤ 1048576) : Calls Tryd.prog 56 #[.string s, .string ⟨#[42]⟩] w fun e w' => e = .returned (cutV s) ∧ Below w.heap.size w w' := by
  have hlt := index_lt s.data.toList 42
  have hz : s.data.toList.length = s.size := by simp
  rw [hz] at hlt
  by_cases h : Lib.indexByte s.data.toList 42 < 0
  · have HC := hid (show cutV s = .tuple #[.string s, .string ⟨#[]⟩, .bool false] by unfold cutV; rw [if_pos h])
    go_enter Tryd.func56, Tryd.ntmps56
    go_wp2_with (go_at_call 65; refine (sl_index s _).mono ?_; rintro e w' ⟨rfl, rfl⟩)
    refine bodyPost_ret (v := .tuple #[.string s, .string ⟨#[]⟩, .bool false]) (by simp [results, Tryd.results56, go_sem]) rfl ?_
    exact ⟨by rw [HC.out], Below.refl _ _⟩
  · obtain ⟨o, ho⟩ : ∃ o : Nat, Lib.indexByte s.data.toList 42 = o := ⟨(Lib.indexByte s.data.toList 42).toNat, by omega⟩
    have HC := hid (show cutV s = .tuple #[.string (s.extract 0 o), .string (s.extract (o + 1) s.size), .bool true] by unfold cutV; rw [if_neg h, ho]; rfl)
    have HI := hid (sl_index s)
    rw [ho] at HI hlt
    clear ho h
    go_enter Tryd.func56, Tryd.ntmps56
    go_wp2_with (go_at_call 65; refine (HI.out _).mono ?_; rintro e w' ⟨rfl, rfl⟩)
    go_region
    go_wp2
    refine bodyPost_ret (v := .tuple #[.string (s.extract 0 o), .string (s.extract (o + 1) s.size), .bool true]) (by simp [results, Tryd.results56, go_sem]) rfl ?_
    exact ⟨by rw [HC.out], (Below.refl _ _).drew⟩

set_option maxHeartbeats 400000 in
set_option maxRecDepth 100000 in
theorem st_cut (s : ByteArray) (w : World) (hs : s.size ≤ 1048576) : Calls Tryd.prog 40 #[.string s, .string ⟨#[42]⟩] w fun e w' => e = .returned (cutV s) ∧ Below w.heap.size w w' := by
  have hC := sl_cut s w hs
  by_cases h : Lib.indexByte s.data.toList 42 < 0
  · have HC : cutV s = .tuple #[.string s, .string ⟨#[]⟩, .bool false] := by unfold cutV; rw [if_pos h]
    rw [HC] at hC ⊢
    clear HC
    go_enter Tryd.func40, Tryd.ntmps40
    go_wp2_with (go_at_call 56; refine hC.mono ?_; rintro e w' ⟨rfl, hb⟩)
    refine bodyPost_ret (v := .tuple #[.string s, .string ⟨#[]⟩, .bool false]) (by simp [results, Tryd.results40, go_sem]) rfl ?_
    exact ⟨rfl, hb⟩
  · have HC : cutV s = .tuple #[.string (s.extract 0 (Lib.indexByte s.data.toList 42).toNat), .string (s.extract ((Lib.indexByte s.data.toList 42).toNat + 1) s.size), .bool true] := by unfold cutV; rw [if_neg h]
    rw [HC] at hC ⊢
    clear HC
    go_enter Tryd.func40, Tryd.ntmps40
    go_wp2_with (go_at_call 56; refine hC.mono ?_; rintro e w' ⟨rfl, hb⟩)
    refine bodyPost_ret (v := .tuple #[.string (s.extract 0 (Lib.indexByte s.data.toList 42).toNat), .string (s.extract ((Lib.indexByte s.data.toList 42).toNat + 1) s.size), .bool true]) (by simp [results, Tryd.results40, go_sem]) rfl ?_
    exact ⟨rfl, hb⟩

set_option maxHeartbeats 400000 in
set_option maxRecDepth 100000 in
theorem st_split (s : ByteArray) (w : World) : Calls Tryd.prog 43 #[.string s, .string ⟨#[42]⟩] w fun e w' => e = .returned (.func (.func 66) #[] #[.pointer (some ⟨w.heap.size + 1, 0, none⟩), .pointer (some ⟨w.heap.size, 0, none⟩), .pointer (some ⟨w.heap.size + 2, 0, none⟩)]) ∧ w' = ((w.alloc (.cells #[.string s] 9)).alloc (.cells #[.string ⟨#[42]⟩] 9)).alloc (.cells #[.int .i64 0] 3) := by
  go_enter Tryd.func43, Tryd.ntmps43
  go_wp2
  go_ret
  exact ⟨rfl, rfl⟩
end Go.Proofs.Qxb6613124aDoor
