/-
  THE WALKS of zzClone (7), ZZcondition (20), ZZstatement (6), ZZidentityPolicy (9), ZZkeyPolicy (11).
-/
import Derived.Test.Qxb6613124aDoorAllows
namespace Go.Proofs.Qxb6613124aDoor
open Go.RowKit

theorem info9 : (Tryd.prog.info? 9).map (fun i => (i.zero, i.size, i.bytes)) = some (some (.string ⟨#[]⟩), 1, 16) := by kernel_rfl
theorem make_strs (n : Nat) (h : n ≤ 1048576) (w : World) :
    (Instr.makeSlice 33 (.int .i64 n) (.int .i64 n)).run Tryd.prog w = .ok (.slice (some ⟨w.heap.size, 0, none⟩) n n) (w.alloc (.cells (madeCells #[.string ⟨#[]⟩] n) 9)) := by
  obtain ⟨i, hi, hz0, hz1, hz2⟩ := info_parts info9
  exact run_make_row 33 9 i (.string ⟨#[]⟩) Tryd.underlying33 hi hz0 hz1 rfl .i64 .i64 n (by rw [hz2]; omega) (by omega) w

/-- The clone lies somewhere, holds the same strings, and is nil just where the original is. -/
def CloneP (w : World) (p : Option Addr) (ss : List ByteArray) (e : Ending) (w' : World) : Prop := ∃ q cq, e = .returned (.slice q ss.length cq) ∧ StrsAt w' q ss ∧ q.isNone = p.isNone ∧ (∀ a, q = some a → w.heap.size ≤ a.block) ∧ Below w.heap.size w w'

/-- The row's first k cells hold the strings. -/
def RowS (w : World) (ss : List ByteArray) (k : Nat) (W : World) : Prop := ∃ f, W.rowIs w.heap.size 9 ss.length f ∧ (∀ (j : Nat) (h : j < ss.length), j < k → f j = .string ss[j]) ∧ Below w.heap.size w W

set_option maxHeartbeats 400000 in
set_option maxRecDepth 100000 in
theorem clone_any (ss : List ByteArray) (p : Option Addr) (cp : Nat) (w : World) (hl : ss.length ≤ 1048576) (hn : p = none → ss = []) (hS : Hid (StrsAt w p ss)) :
    Calls Tryd.prog 7 #[.slice p ss.length cp] w fun e w' => CloneP w p ss e w' := by
  have hnil := fun (a : Option Addr) (l c : Nat) (w : World) => run_eql_slice_nil (P := Tryd.prog) w 33 9 a l c Tryd.underlying33
  cases p with
  | none =>
    obtain rfl := hn rfl
    go_enter Tryd.func7, Tryd.ntmps7
    go_wp2
    go_ret
    exact ⟨none, 0, rfl, fun h => absurd h (by simp), rfl, (fun a h => by cases h), Below.refl _ _⟩
  | some a =>
    clear hn
    have hmk := fun w => make_strs ss.length hl w
    go_enter Tryd.func7, Tryd.ntmps7
    go_wp2
    go_loopw [4] (fun sj wr => ∃ k : Nat, k ≤ ss.length ∧ sj = .int .i64 k ∧ Hid (RowS w ss k wr)) (fun j _ => ss.length - (intOf j).toNat)
    case atStart => exact ⟨0, Nat.zero_le _, rfl, hid ⟨_, World.rowIs_made w (.string ⟨#[]⟩) ss.length 9, fun j _ h => by omega, (Below.refl _ _).alloc (Nat.le_refl _) _⟩⟩
    case round =>
      obtain ⟨k, hk, rfl, hrel⟩ := hrel
      obtain ⟨f, hrow, hf, hB⟩ := hrel.out
      clear hmk
      by_cases hlt : k < ss.length
      · obtain ⟨b, o, hae, hc⟩ := hS.out (by omega)
        obtain rfl := Option.some.inj hae
        clear hae
        have hck := (hB.cell (p := ⟨b, o + k, none⟩) (block_lt_of_cell (hc k hlt))).trans (hc k hlt)
        have e0 := hrow.cell (i := k) (by omega)
        have z0 := hrow.frozen k
        obtain ⟨x, hx⟩ : ∃ x, ss[k] = x := ⟨_, rfl⟩
        rw [hx] at hck
        have hst : Hid (RowS w ss (k + 1) (wr.setCell ⟨w.heap.size, k, none⟩ (.string x))) := by
          refine hid ⟨_, hrow.set k _, fun j hj hjk => ?_, hB.setCell (p := ⟨w.heap.size, k, none⟩) (Nat.le_refl _) _⟩
          by_cases e : j = k
          · subst e; rw [if_pos rfl, hx]
          · rw [if_neg e]; exact hf j hj (by omega)
        clear hx hc hrow hf hB hrel
        go_wp2
        exact ⟨⟨k + 1, by omega, by go_num, hst⟩, by simp [intOf]; omega⟩
      · obtain rfl : k = ss.length := by omega
        have HR := hid hrel.out
        clear hrow hf hB hrel
        go_wp2
        go_ret
        obtain ⟨f, hrow, hf, hB⟩ := HR.out
        refine ⟨some ⟨w.heap.size, 0, none⟩, ss.length, rfl, fun _ => ⟨w.heap.size, 0, rfl, fun j hj => ?_⟩, rfl, (fun a h => by cases h; exact Nat.le_refl _), hB⟩
        rw [Nat.zero_add, ← hf j hj hj]
        exact hrow.cell hj

set_option maxHeartbeats 400000 in
set_option maxRecDepth 100000 in
theorem zzcond (neg ic : Bool) (pcr : Int) (q : Option Addr) (n c : Nat) (w : World) : Calls Tryd.prog 20 #[.bool neg, .bool ic, .int .i64 pcr, .slice q n c] w fun e w' => e = .returned (.agg #[.bool neg, .bool ic, .int .i64 pcr, .slice q n c]) ∧ Below w.heap.size w w' := by
  go_enter Tryd.func20, Tryd.ntmps20
  go_wp2
  refine bodyPost_ret (v := .agg #[.bool neg, .bool ic, .int .i64 pcr, .slice q n c]) (by simp [results, Tryd.f20, go_sem]) rfl ?_
  exact ⟨rfl, (Below.refl _ _).alloc (Nat.le_refl _) _⟩

set_option maxHeartbeats 400000 in
set_option maxRecDepth 100000 in
theorem zzstmt (d : Bool) (q1 q2 q3 q4 : Option Addr) (n1 n2 n3 n4 c1 c2 c3 c4 : Nat) (w : World) : Calls Tryd.prog 6 #[.bool d, .slice q1 n1 c1, .slice q2 n2 c2, .slice q3 n3 c3, .slice q4 n4 c4] w fun e w' => e = .returned (.agg #[.bool d, .slice q1 n1 c1, .slice q2 n2 c2, .slice q3 n3 c3, .slice q4 n4 c4]) ∧ Below w.heap.size w w' := by
  go_enter Tryd.func6, Tryd.ntmps6
  go_wp2
  refine bodyPost_ret (v := .agg #[.bool d, .slice q1 n1 c1, .slice q2 n2 c2, .slice q3 n3 c3, .slice q4 n4 c4]) (by simp [results, Tryd.f6, go_sem]) rfl ?_
  exact ⟨rfl, (Below.refl _ _).alloc (Nat.le_refl _) _⟩

set_option maxHeartbeats 400000 in
set_option maxRecDepth 100000 in
theorem zzkp (q : Option Addr) (n c : Nat) (w : World) : Calls Tryd.prog 11 #[.slice q n c] w fun e w' => e = .returned (.pointer (some ⟨w.heap.size, 0, none⟩)) ∧ w' = w.alloc (.cells #[.slice q n c] 71) := by
  go_enter Tryd.func11, Tryd.ntmps11
  go_wp2
  go_ret
  exact ⟨rfl, rfl⟩

set_option maxHeartbeats 400000 in
set_option maxRecDepth 100000 in
theorem zzip (q : Option Addr) (n c : Nat) (w : World) : Calls Tryd.prog 9 #[.slice q n c] w fun e w' => e = .returned (.pointer (some ⟨w.heap.size, 0, none⟩)) ∧ w' = w.alloc (.cells #[.slice q n c] 68) := by
  go_enter Tryd.func9, Tryd.ntmps9
  go_wp2
  go_ret
  exact ⟨rfl, rfl⟩
end Go.Proofs.Qxb6613124aDoor
