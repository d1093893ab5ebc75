/-
  THE WALK of 'toValues' (14).
-/
import Derived.Test.Qxb6606343aDoorSizes
import Derived.Deep.OwnRows
import Derived.BigRegion
namespace Go.Proofs.Qxb6606343aDoor
open Go.RowKit

theorem info46 : (Tryd.prog.info? 46).map (fun i => (i.zero, i.size, i.bytes)) = some (some (.agg #[.string ⟨#[]⟩, .int .i64 0, .bool false, .bool false]), 4, 32) := by kernel_rfl

theorem make_vals (n : Nat) (h : n ≤ 1048576) (w : World) :
    (Instr.makeSlice 36 (.int .i64 n) (.int .i64 n)).run Tryd.prog w = .ok (.slice (some ⟨w.heap.size, 0, none⟩) n n) (w.alloc (.cells (madeCells #[.string ⟨#[]⟩, .int .i64 0, .bool false, .bool false] (n * 4)) 46)) := by
  obtain ⟨i, hi, hz0, hz1, hz2⟩ := info_parts info46
  have := run_make (P := Tryd.prog) w 36 46 i _ Tryd.underlying36 hi hz0 .i64 .i64 n n (by omega) (Int.le_refl _) (by rw [hz2]; omega) (by omega)
  rw [hz1] at this
  simp only [Int.toNat_natCast] at this
  exact this

theorem made_row (w : World) (n : Nat) : ∃ f, (w.alloc (.cells (madeCells #[.string ⟨#[]⟩, .int .i64 0, .bool false, .bool false] (n * 4)) 46)).rowIs w.heap.size 46 (n * 4) f := by
  have := World.rowIs_alloc w (madeCells #[.string ⟨#[]⟩, .int .i64 0, .bool false, .bool false] (n * 4)) 46 (fun j => (madeCells #[.string ⟨#[]⟩, .int .i64 0, .bool false, .bool false] (n * 4)).getD j undef) (fun j hj => by simp [Array.getD, hj])
  rw [size_madeCells] at this
  exact ⟨_, this⟩

/-- The row's cells hold the first k elements. -/
def Filled (f : Nat → Value) (vs : List ZVal) (k : Nat) : Prop := ∀ (j : Nat) (h : j < vs.length), j < k →
  f (j * 4) = .string vs[j].text ∧ f (j * 4 + 1) = .int .i64 vs[j].params ∧ f (j * 4 + 2) = .bool vs[j].constant ∧ f (j * 4 + 3) = .bool vs[j].ascii

theorem conv_step {w wr : World} {n : Nat} {f : Nat → Value} {vs : List ZVal} {k : Nat} (hlt : k < vs.length) (hrow : wr.rowIs w.heap.size 46 n f) (hfl : Filled f vs k) (hnx : Below w.heap.size w wr) {s : ByteArray} {p : Int} {c a : Bool}
    (hs : vs[k].text = s) (hp : vs[k].params = p) (hc : vs[k].constant = c) (ha : vs[k].ascii = a) :
    ∃ g, ((((wr.setCell ⟨w.heap.size, k * 4, none⟩ (.string s)).setCell ⟨w.heap.size, k * 4 + 1, none⟩ (.int .i64 p)).setCell ⟨w.heap.size, k * 4 + 2, none⟩ (.bool c)).setCell ⟨w.heap.size, k * 4 + 3, none⟩ (.bool a)).drew.rowIs w.heap.size 46 n g ∧ Filled g vs (k + 1) ∧
      Below w.heap.size w ((((wr.setCell ⟨w.heap.size, k * 4, none⟩ (.string s)).setCell ⟨w.heap.size, k * 4 + 1, none⟩ (.int .i64 p)).setCell ⟨w.heap.size, k * 4 + 2, none⟩ (.bool c)).setCell ⟨w.heap.size, k * 4 + 3, none⟩ (.bool a)).drew := by
  refine ⟨_, ((((hrow.set (k * 4) _).set (k * 4 + 1) _).set (k * 4 + 2) _).set (k * 4 + 3) _).drew, ?_, ((((hnx.setCell (Nat.le_refl _) _).setCell (Nat.le_refl _) _).setCell (Nat.le_refl _) _).setCell (Nat.le_refl _) _).drew⟩
  intro j hj hjk
  by_cases e : j = k
  · subst e
    rw [hs, hp, hc, ha]
    refine ⟨?_, ?_, ?_, ?_⟩ <;> dsimp only
    · rw [if_neg (by omega), if_neg (by omega), if_neg (by omega), if_pos rfl]
    · rw [if_neg (by omega), if_neg (by omega), if_pos rfl]
    · rw [if_neg (by omega), if_pos rfl]
    · rw [if_pos rfl]
  · obtain ⟨h0, h1, h2, h3⟩ := hfl j hj (by omega)
    refine ⟨?_, ?_, ?_, ?_⟩ <;> dsimp only
    · rw [if_neg (by omega), if_neg (by omega), if_neg (by omega), if_neg (by omega), h0]
    · rw [if_neg (by omega), if_neg (by omega), if_neg (by omega), if_neg (by omega), h1]
    · rw [if_neg (by omega), if_neg (by omega), if_neg (by omega), if_neg (by omega), h2]
    · rw [if_neg (by omega), if_neg (by omega), if_neg (by omega), if_neg (by omega), h3]

theorem cells_of_filled {w : World} {b n : Nat} {f : Nat → Value} {vs : List ZVal} (hrow : w.rowIs b 46 n f) (hn : n = vs.length * 4) (hfl : Filled f vs vs.length) : Cells w b 0 vs := by
  intro j hj
  obtain ⟨h0, h1, h2, h3⟩ := hfl j hj hj
  rw [Nat.zero_add]
  exact ⟨by rw [← h0]; exact hrow.cell (by omega), by rw [← h1]; exact hrow.cell (by omega), by rw [← h2]; exact hrow.cell (by omega), by rw [← h3]; exact hrow.cell (by omega)⟩

set_option maxHeartbeats 400000 in
set_option maxRecDepth 100000 in
theorem conv_ne (vs : List ZVal) (b o cp : Nat) (w : World) (hn : vs.length ≤ 1048576) (hb : b < w.heap.size) (hcells : Hid (Cells w b o vs)) :
    Calls Tryd.prog 14 #[.slice (some ⟨b, o, none⟩) vs.length cp] w fun e w' => e = .returned (.slice (some ⟨w.heap.size, 0, none⟩) vs.length vs.length) ∧ Cells w' w.heap.size 0 vs ∧ w.heap.size < w'.heap.size ∧ Below w.heap.size w w' := by
  have hmk := make_vals vs.length hn
  go_enter Tryd.func14, Tryd.ntmps14
  go_wp2
  go_loopw [4] (fun i wr => ∃ (k : Nat) (f : Nat → Value), k ≤ vs.length ∧ i = .int .i64 k ∧ wr.rowIs w.heap.size 46 (vs.length * 4) f ∧ Filled f vs k ∧ Below w.heap.size w wr) (fun i _ => vs.length - (intOf i).toNat)
  case atStart =>
    obtain ⟨f, hf⟩ := made_row w vs.length
    exact ⟨0, f, Nat.zero_le _, rfl, hf, fun j _ h => by omega, (Below.refl _ _).alloc (Nat.le_refl _) _⟩
  case round =>
    obtain ⟨k, f, hk, rfl, hrow, hfl, hnx⟩ := hrel
    by_cases hlt : k < vs.length
    · obtain ⟨c0, c1, c2, c3⟩ := hcells.out k hlt
      have d0 := (hnx.cell (p := ⟨b, o + k * 4, none⟩) hb).trans c0
      have d1 := (hnx.cell (p := ⟨b, o + k * 4 + 1, none⟩) hb).trans c1
      have d2 := (hnx.cell (p := ⟨b, o + k * 4 + 2, none⟩) hb).trans c2
      have d3 := (hnx.cell (p := ⟨b, o + k * 4 + 3, none⟩) hb).trans c3
      have e0 := hrow.cell (i := k * 4) (by omega)
      have e1 := hrow.cell (i := k * 4 + 1) (by omega)
      have e2 := hrow.cell (i := k * 4 + 2) (by omega)
      have e3 := hrow.cell (i := k * 4 + 3) (by omega)
      have z0 := hrow.frozen (k * 4)
      have z1 := hrow.frozen (k * 4 + 1)
      have z2 := hrow.frozen (k * 4 + 2)
      have z3 := hrow.frozen (k * 4 + 3)
      have hstep : Hid _ := conv_step hlt hrow hfl hnx rfl rfl rfl rfl
      generalize vs[k] = v at *
      clear c0 c1 c2 c3 hmk
      go_wp2
      go_region
      go_wp2
      obtain ⟨g, h1, h2, h3⟩ := hstep.out
      exact ⟨⟨k + 1, g, by omega, by go_num, h1, h2, h3⟩, by simp [intOf]; omega⟩
    · go_wp2
      go_ret
      obtain rfl : k = vs.length := by omega
      exact ⟨rfl, cells_of_filled hrow rfl hfl, hrow.lt, hnx⟩

set_option maxHeartbeats 400000 in
set_option maxRecDepth 100000 in
theorem conv_no (a : Option Addr) (cp : Nat) (w : World) :
    Calls Tryd.prog 14 #[.slice a 0 cp] w fun e w' => e = .returned (.slice (some ⟨w.heap.size, 0, none⟩) 0 0) ∧ w.heap.size < w'.heap.size ∧ Below w.heap.size w w' := by
  have hmk := make_vals 0 (by omega)
  simp only [Int.natCast_zero] at hmk
  go_enter Tryd.func14, Tryd.ntmps14
  go_wp2
  refine wp_loop_rounds 1 ?_
  rw [rounds_succ]
  go_wp2
  go_ret
  exact ⟨rfl, by simp, (Below.refl _ _).alloc (Nat.le_refl _) _⟩
end Go.Proofs.Qxb6606343aDoor
