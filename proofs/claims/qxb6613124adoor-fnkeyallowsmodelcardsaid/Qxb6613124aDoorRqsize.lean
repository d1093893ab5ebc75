/-
  THE WALK of zzRequestSize (16).
-/
import Derived.Test.Qxb6613124aDoorSizes
namespace Go.Proofs.Qxb6613124aDoor
open Go.RowKit

/-- The request's seven cells lie at block B, with whatever length. -/
def RzAt (w : World) (B : Nat) (r : Rq) (z : Int) : Prop := w.cell? ⟨B, 0, none⟩ = some (.string r.principal) ∧ w.cell? ⟨B, 1, none⟩ = some (.string r.account) ∧ w.cell? ⟨B, 2, none⟩ = some (.string r.action) ∧ w.cell? ⟨B, 3, none⟩ = some (.string r.resource) ∧ w.cell? ⟨B, 4, none⟩ = some (.int .i64 z) ∧ w.cell? ⟨B, 5, none⟩ = some (.string r.digits) ∧ w.cell? ⟨B, 6, none⟩ = some r.mv
theorem RzAt.below {w w' : World} {B : Nat} {r : Rq} {z : Int} (h : RzAt w B r z) (hb : Below w.heap.size w w') : RzAt w' B r z := by
  have k : ∀ {a : Addr} {v : Value}, w.cell? a = some v → w'.cell? a = some v := fun {a v} hx => (hb.cell (block_lt_of_cell hx)).trans hx
  exact ⟨k h.1, k h.2.1, k h.2.2.1, k h.2.2.2.1, k h.2.2.2.2.1, k h.2.2.2.2.2.1, k h.2.2.2.2.2.2⟩
theorem RzAt.new (w : World) (r : Rq) (z : Int) : RzAt (w.alloc (.cells #[.string r.principal, .string r.account, .string r.action, .string r.resource, .int .i64 z, .string r.digits, r.mv] 30)) w.heap.size r z :=
  ⟨new_cell w _ 30 0 (by simp), new_cell w _ 30 1 (by simp), new_cell w _ 30 2 (by simp), new_cell w _ 30 3 (by simp), new_cell w _ 30 4 (by simp), new_cell w _ 30 5 (by simp), new_cell w _ 30 6 (by simp)⟩

set_option maxHeartbeats 800000 in
set_option maxRecDepth 100000 in
theorem rqSize (r : Rq) (z : Int) (L : Nat) (w : World) (hL : Hid (∀ W, Below w.heap.size w W → (Builtin.len_ #[26] 3 #[r.mv]).run Tryd.prog W = .ok (.int .i64 (L : Int)) W)) :
    Calls Tryd.prog 16 #[.int .i64 0, .agg #[.string r.principal, .string r.account, .string r.action, .string r.resource, .int .i64 z, .string r.digits, r.mv]] w fun e w' => SizeP 0 (RqOk r) e ∧ Below w.heap.size w w' := by
  have hA0 : Hid (∀ W : World, Calls Tryd.prog 17 #[.int .i64 0, .int .i64 r.principal.size] W fun e w' => SizeP 0 (Small r.principal.size) e ∧ w' = W) := hid (fun W => add_any 0 _ W (by omega))
  have hB := hid ((Below.refl w.heap.size w).alloc (Nat.le_refl _) (.cells #[.string r.principal, .string r.account, .string r.action, .string r.resource, .int .i64 z, .string r.digits, r.mv] 30))
  have hR := RzAt.new w r z
  obtain ⟨c0, c1, c2, c3, c4, c5, c6⟩ := hR
  go_enter Tryd.func16, Tryd.ntmps16
  go_wp2_with fail
  generalize w.alloc (.cells #[.string r.principal, .string r.account, .string r.action, .string r.resource, .int .i64 z, .string r.digits, r.mv] 30) = W1 at *
  refine (hA0.out W1).mono ?_
  rintro e w1 ⟨⟨m1, rfl, hm1, hP1⟩, rfl⟩
  go_wp2_with fail
  refine (add_any m1 r.account.size _ hm1).mono ?_
  rintro e w2 ⟨⟨m2, rfl, hm2, hP2⟩, rfl⟩
  go_wp2_with fail
  refine (add_any m2 r.action.size _ hm2).mono ?_
  rintro e w3 ⟨⟨m3, rfl, hm3, hP3⟩, rfl⟩
  go_wp2_with fail
  refine (add_any m3 r.resource.size _ hm3).mono ?_
  rintro e w4 ⟨⟨m4, rfl, hm4, hP4⟩, rfl⟩
  go_wp2_with fail
  refine (add_any m4 r.digits.size _ hm4).mono ?_
  rintro e w5 ⟨⟨m5, rfl, hm5, hP5⟩, rfl⟩
  have hlen := hL.out w5 hB.out
  by_cases hl : L ≤ 1048576
  · go_wp2_with fail
    refine (add_any m5 (32 * L) _ hm5).mono ?_
    rintro e w6 ⟨⟨m6, rfl, hm6, hP6⟩, rfl⟩
    go_wp2
    go_ret
    refine ⟨sizeP_in rfl hm6 (fun h => ?_), hB.out⟩
    have h5 := (hP6 h).1
    have h4 := (hP5 h5).1
    have h3 := (hP4 h4).1
    have h2 := (hP3 h3).1
    have h1 := (hP2 h2).1
    exact ⟨Nat.zero_le _, (hP1 h1).2, (hP2 h2).2, (hP3 h3).2, (hP4 h4).2, (hP5 h5).2⟩
  · have hl' : ¬ ((L : Int) ≤ 1048576) := by omega
    go_wp2
    go_ret
    exact ⟨sizeP_out, hB.out⟩
end Go.Proofs.Qxb6613124aDoor
