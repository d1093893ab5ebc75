/-
  THE WALK of 'keptBefore' (21).
-/
import Derived.Test.Qxb6606343aDoorConv
import Derived.Deep.RegionWith
import Derived.Deep.QuietTactic
import Derived.BigQuiet
import Derived.Lib.QuietBelow
namespace Go.Proofs.Qxb6606343aDoor
open Go.RowKit

def ZVal.live (v : ZVal) : Bool := liveB v.text.data.toList v.constant
/-- A live value among the first k has the text t. -/
def keptB (vs : List ZVal) (k : Nat) (t : ByteArray) : Bool := (vs.take k).any fun v => v.live && (v.text.toList == t.toList)

theorem kept_snoc (vs : List ZVal) (k : Nat) (t : ByteArray) (h : k < vs.length) : keptB vs (k + 1) t = (keptB vs k t || (vs[k].live && (vs[k].text.toList == t.toList))) := by
  unfold keptB
  rw [List.take_succ_eq_append_getElem h, List.any_append]
  simp

theorem kept_mono (vs : List ZVal) (k i : Nat) (t : ByteArray) (h : k ≤ i) (hk : keptB vs k t = true) : keptB vs i t = true := by
  unfold keptB at *
  rw [List.any_eq_true] at *
  obtain ⟨v, hv, hx⟩ := hk
  exact ⟨v, List.take_subset_take_left vs h hv, hx⟩

theorem live_is (s : ByteArray) (p : Int) (c a : Bool) (w : World) {x : Bool} (hs : s.size ≤ 1048576) (hx : liveB s.data.toList c = x) :
    Calls Tryd.prog 20 #[.agg #[.string s, .int .i64 p, .bool c, .bool a]] w fun e w' => e = .returned (.bool x) ∧ Below w.heap.size w w' := by
  subst hx
  exact live_any s p c a w hs

set_option maxHeartbeats 400000 in
set_option maxRecDepth 100000 in
theorem kept_any (vs : List ZVal) (i : Nat) (b o cp : Nat) (w : World) (hi : i < vs.length) (hn : vs.length ≤ 1048576) (ht : Hid (∀ v ∈ vs, v.text.size ≤ 1048576)) (hb : b < w.heap.size) (hcells : Hid (Cells w b o vs)) :
    Calls Tryd.prog 21 #[.slice (some ⟨b, o, none⟩) vs.length cp, .int .i64 i] w fun e w' => e = .returned (.bool (keptB vs i vs[i].text)) ∧ Below w.heap.size w w' := by
  go_enter Tryd.func21, Tryd.ntmps21
  go_wp2
  go_loopw [5] (fun j wr => ∃ k : Nat, k ≤ i ∧ j = .int .i64 k ∧ Hid (keptB vs k vs[i].text = false) ∧ Below w.heap.size w wr) (fun j _ => i - (intOf j).toNat)
  case atStart => exact ⟨0, Nat.zero_le _, rfl, (by simp [keptB] : keptB vs 0 vs[i].text = false), Below.refl _ _⟩
  case round =>
    obtain ⟨k, hk, rfl, hno, hnx⟩ := hrel
    by_cases hlt : k < i
    · have hkl : k < vs.length := by omega
      obtain ⟨c0, c1, c2, c3⟩ := hcells.out k hkl
      obtain ⟨i0, _, _, _⟩ := hcells.out i hi
      have d0 := (hnx.cell (p := ⟨b, o + k * 4, none⟩) hb).trans c0
      have d1 := (hnx.cell (p := ⟨b, o + k * 4 + 1, none⟩) hb).trans c1
      have d2 := (hnx.cell (p := ⟨b, o + k * 4 + 2, none⟩) hb).trans c2
      have d3 := (hnx.cell (p := ⟨b, o + k * 4 + 3, none⟩) hb).trans c3
      have e0 := (hnx.cell (p := ⟨b, o + i * 4, none⟩) hb).trans i0
      have hsn : Hid _ := kept_snoc vs k vs[i].text hkl
      have htk : vs[k].text.size ≤ 1048576 := ht.out _ (List.getElem_mem hkl)
      clear c0 c1 c2 c3 i0
      generalize hti : vs[i].text = ti at *
      have HTI : Hid (vs[i].text = ti) := hti
      clear hti
      generalize vs[k] = v at *
      have q0 := cell_regrown d0
      have q1 := cell_regrown d1
      have q2 := cell_regrown d2
      have q3 := cell_regrown d3
      have r0 := cell_regrown e0
      clear d0 d1 d2 d3 e0
      have hkz : (k : Int) < (vs.length : Int) := by omega
      have hiz : (i : Int) < (vs.length : Int) := by omega
      by_cases hv : v.live = true
      · go_wp2
        refine wp_region_quiet_below (by kernel_rfl) (by kernel_rfl) ?_
        repeat (first | go_big_quiet_step (exact Calls.regrown_of (live_is _ _ _ _ _ htk hv)) | quiet_step (exact Calls.regrown_of (live_is _ _ _ _ _ htk hv)))
        refine wpQuiet_nil ?_
        intro _ hw'
        obtain ⟨⟨dq, osq⟩, hw''⟩ := hw'
        subst hw''
        go_wp2
        · have hq : (v.text.toList == ti.toList) = true := by assumption
          go_ret
          exact ⟨ret_bool (by rw [HTI.out]; exact (kept_mono vs (k + 1) i ti (by omega) (by rw [hsn.out, hv, hq]; simp)).symm), hnx.trans ((below_regrown wr dq osq).mono hnx.size)⟩
        · have hq : (v.text.toList == ti.toList) = false := by assumption
          exact ⟨⟨k + 1, by omega, by go_num, (by rw [hsn.out, hq, hno.out]; simp : keptB vs (k + 1) ti = false), hnx.trans ((below_regrown wr dq osq).mono hnx.size)⟩, by simp [intOf]; omega⟩
      · have hv' : v.live = false := by simpa using hv
        clear hv
        go_wp2
        refine wp_region_quiet_below (by kernel_rfl) (by kernel_rfl) ?_
        repeat (first | go_big_quiet_step (exact Calls.regrown_of (live_is _ _ _ _ _ htk hv')) | quiet_step (exact Calls.regrown_of (live_is _ _ _ _ _ htk hv')))
        refine wpQuiet_nil ?_
        intro _ hw'
        obtain ⟨⟨dq, osq⟩, hw''⟩ := hw'
        subst hw''
        go_wp2
        exact ⟨⟨k + 1, by omega, by go_num, (by rw [hsn.out, hv', hno.out]; simp : keptB vs (k + 1) ti = false), hnx.trans ((below_regrown wr dq osq).mono hnx.size)⟩, by simp [intOf]; omega⟩
    · go_wp2
      go_ret
      obtain rfl : k = i := by omega
      exact ⟨ret_bool hno.out.symm, hnx⟩
end Go.Proofs.Qxb6606343aDoor
