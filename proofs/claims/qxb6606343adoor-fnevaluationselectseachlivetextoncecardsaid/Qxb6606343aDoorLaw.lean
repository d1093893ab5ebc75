/-
  THE WALK of the law 'FnEvaluationSelectsEachLiveTextOnce' (4), out of its callees' contracts.
-/
import Derived.Test.Qxb6606343aDoorEval
namespace Go.Proofs.Qxb6606343aDoor
open Go.RowKit

theorem zzeval_any (r c : ByteArray) (vs : List ZVal) (b cp : Nat) (w : World) (hle : r.size + c.size + vs.length + sumTo vs vs.length ≤ 1048576) (ht : Hid (∀ v ∈ vs, v.text.size ≤ 1048576)) (hb : b < w.heap.size) (hcells : Hid (Cells w b 0 vs)) (hT : Hid (FoldTab w)) (h0 : 0 < w.heap.size) :
    Calls Tryd.prog 13 #[.string r, .string c, .slice (some ⟨b, 0, none⟩) vs.length cp] w fun e w' => e = .returned (.string ⟨(evalOut r c (keptTo vs vs.length)).toArray⟩) ∧ Below w.heap.size w w' := by
  go_enter Tryd.func13, Tryd.ntmps13
  go_wp2_with fail
  refine (eval_any r c vs b cp w hle ht hb hcells hT h0).mono ?_
  rintro e w1 ⟨rfl, hb1⟩
  go_wp2
  go_ret
  exact ⟨rfl, hb1⟩

theorem sum_mem : ∀ (l : List Nat) (x : Nat), x ∈ l → x ≤ l.sum
  | y :: l, x, h => by
    rw [List.sum_cons]
    rcases List.mem_cons.1 h with rfl | h
    · omega
    · have := sum_mem l x h; omega
theorem sum_each (vs : List ZVal) : ∀ v ∈ vs, v.text.size ≤ sumTo vs vs.length := by
  intro v hv
  unfold sumTo
  rw [List.take_length]
  exact sum_mem _ _ (List.mem_map.2 ⟨v, hv, rfl⟩)

set_option maxHeartbeats 400000 in
set_option maxRecDepth 100000 in
theorem law_ne (r c : ByteArray) (vs : List ZVal) (b o cp : Nat) (w : World) (hr : r.size ≤ maxLen) (hc : c.size ≤ maxLen) (hn : vs.length ≤ maxLen) (ht : Hid (∀ v ∈ vs, v.text.size ≤ maxLen)) (hb : b < w.heap.size) (hcells : Hid (Cells w b o vs)) (hT : Hid (FoldTab w)) :
    Calls Tryd.prog 4 #[.string r, .string c, .slice (some ⟨b, o, none⟩) vs.length cp] w fun e w' => e = .returned (.bool true) ∧ Below w.heap.size w w' := by
  go_enter Tryd.func4, Tryd.ntmps4
  go_wp2_with fail
  refine (bytes_ne r c vs b o cp w hr hc hn ht hcells).mono ?_
  rintro e w1 ⟨⟨B, rfl, hB⟩, rfl⟩
  cases B with
  | false =>
    clear hB
    go_wp2
    go_ret
    exact ⟨rfl, Below.refl _ _⟩
  | true =>
    have hle : r.size + c.size + vs.length + sumTo vs vs.length ≤ 1048576 := hB rfl
    have hts : Hid (∀ v ∈ vs, v.text.size ≤ 1048576) := fun v hv => by have := sum_each vs v hv; omega
    clear hB
    go_wp2_with fail
    refine (vbytes_ne r c vs b o cp w1 hle hcells).mono ?_
    rintro e w2 ⟨⟨n, rfl⟩, rfl⟩
    by_cases hn2 : 1048576 < n
    · go_wp2
      go_ret
      exact ⟨rfl, Below.refl _ _⟩
    · go_wp2_with fail
      refine (conv_ne vs b o cp _ (by omega) hb hcells).mono ?_
      rintro e w3 ⟨rfl, hc3, hlt3, hb3⟩
      have HC : Hid (Cells w3 _ 0 vs) := hc3
      clear hc3
      go_wp2_with fail
      have h0 : 0 < w2.heap.size := by omega
      refine (zzeval_any r c vs w2.heap.size vs.length w3 hle hts hlt3 HC (hT.out.below hb3 h0) (by have := hb3.size; omega)).mono ?_
      rintro e w4 ⟨rfl, hb4⟩
      have hB4 : Below w2.heap.size w2 w4 := hb3.trans (hb4.mono hb3.size)
      go_wp2_with fail
      refine (model_ne r c vs b o cp w4 hle hts (by have := hB4.size; omega) (hcells.out.below hb hB4)).mono ?_
      rintro e w5 ⟨rfl, hb5⟩
      generalize evalOut r c (keptTo vs vs.length) = out
      go_wp2
      go_ret
      exact ⟨rfl, hB4.trans (hb5.mono hB4.size)⟩

set_option maxHeartbeats 400000 in
set_option maxRecDepth 100000 in
theorem law_no (r c : ByteArray) (a : Option Addr) (cp : Nat) (w : World) (hr : r.size ≤ maxLen) (hc : c.size ≤ maxLen) (h0 : 0 < w.heap.size) (hT : Hid (FoldTab w)) :
    Calls Tryd.prog 4 #[.string r, .string c, .slice a 0 cp] w fun e w' => e = .returned (.bool true) ∧ Below w.heap.size w w' := by
  go_enter Tryd.func4, Tryd.ntmps4
  go_wp2_with fail
  refine (bytes_no r c a cp w hr hc).mono ?_
  rintro e w1 ⟨⟨B, rfl, hB⟩, rfl⟩
  cases B with
  | false =>
    clear hB
    go_wp2
    go_ret
    exact ⟨rfl, Below.refl _ _⟩
  | true =>
    have hle : r.size + c.size ≤ 1048576 := hB rfl
    clear hB
    go_wp2_with fail
    refine (vbytes_no r c a cp w1 hle).mono ?_
    rintro e w2 ⟨⟨n, rfl⟩, rfl⟩
    by_cases hn2 : 1048576 < n
    · go_wp2
      go_ret
      exact ⟨rfl, Below.refl _ _⟩
    · go_wp2_with fail
      refine (conv_no a cp _).mono ?_
      rintro e w3 ⟨rfl, hlt3, hb3⟩
      go_wp2_with fail
      have hz : Calls Tryd.prog 13 #[.string r, .string c, .slice (some ⟨w2.heap.size, 0, none⟩) 0 0] w3 fun e w' => e = .returned (.string ⟨(evalOut r c []).toArray⟩) ∧ Below w3.heap.size w3 w' :=
        zzeval_any r c [] w2.heap.size 0 w3 (by simpa [sumTo] using hle) (fun v hv => by cases hv) hlt3 (fun j hj => by cases hj) (hT.out.below hb3 h0) (by have := hb3.size; omega)
      refine hz.mono ?_
      rintro e w4 ⟨rfl, hb4⟩
      clear hz
      have hB4 : Below w2.heap.size w2 w4 := hb3.trans (hb4.mono hb3.size)
      go_wp2_with fail
      refine (model_no r c a cp w4 hle).mono ?_
      rintro e w5 ⟨rfl, hb5⟩
      generalize evalOut r c [] = out
      go_wp2
      go_ret
      exact ⟨rfl, hB4.trans (hb5.mono hB4.size)⟩
end Go.Proofs.Qxb6606343aDoor
