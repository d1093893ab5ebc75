/-
  THE WALK of wildcardMatch over an actionName (51).
-/
import Derived.Test.Qxb6613124aDoorWild
import Derived.Test.Qxb6613124aDoorLast
import Derived.Sort.BigQuietIn
namespace Go.Proofs.Qxb6613124aDoor
open Go.RowKit Go.Shelf
attribute [local go_sem] Oper.semAt_some

theorem row1 (w : World) (v : Value) (ty : TypeId) : (w.alloc (.cells #[v] ty)).rowIs w.heap.size ty 1 (fun _ => v) := by
  refine World.rowIs_alloc w #[v] ty (fun _ => v) ?_
  intro i hi
  have h0 : i = 0 := by
    simp at hi
    omega
  rw [h0]
  rfl
theorem row_lit (w : World) (c : Array Value) (ty : TypeId) : (w.alloc (.cells c ty)).rowIs w.heap.size ty c.size (fun j => c.getD j undef) := World.rowIs_alloc w c ty _ (fun i hi => by simp [Array.getD, hi])
theorem row_put {W : World} {b ty m : Nat} {f : Nat → Value} (h : W.rowIs b ty m f) {l : Nat} {o o' : Obj} (hl : W.heap[l]? = some o) (ho : o.isCells = false) : (W.putObj l o').rowIs b ty m f := by
  refine h.of_block (World.putObj_heap_other ?_)
  rintro rfl
  obtain ⟨c, hc, _⟩ := h
  rw [hl] at hc
  cases hc
  cases ho
theorem below_put {w W : World} (h : Below w.heap.size w W) {l : Nat} (o' : Obj) (hw : w.heap.size ≤ l) : Below w.heap.size w (W.putObj l o') :=
  ⟨h.os, h.tape, h.output, by rw [World.putObj_size]; exact h.size, fun k hk => (World.putObj_heap_other (by omega)).trans (h.block k hk)⟩
theorem keeps_below {W W' : World} (h : Below W.heap.size W W') : KeepsOthers W W' := ⟨h.size, fun k _ hk _ => (h.block k (Array.getElem?_eq_some_iff.1 hk).1).trans hk⟩
theorem run_below {W W' : World} (h : Below W.heap.size W W') {m1 m2 : Nat} (hm : m2 ≤ W.heap.size) : KeepsRun m1 m2 W W' := fun b _ h2 => h.block b (by omega)
theorem run_set {m1 m2 : Nat} (W : World) {b : Nat} (hb : b < m1) (v : Value) : KeepsRun m1 m2 W (W.setCell ⟨b, 0, none⟩ v) := fun k h1 _ => Go.Deep.blk_setCell_other _ _ _ _ (by show k ≠ b; omega)

/-- What the walk holds between its statements: the boxed subject at b, the result's cell at b + 1. -/
def HeldA (w : World) (s : ByteArray) (W : World) : Prop := W.rowIs w.heap.size 102 1 (fun _ => .string s) ∧ W.rowIs (w.heap.size + 1) 4 1 (fun _ => .bool false) ∧ Below w.heap.size w W
theorem HeldA.start (w : World) (s : ByteArray) : HeldA w s ((w.alloc (.cells #[.string s] 102)).alloc (.cells #[.bool false] 4)) := by
  have h2 := row1 (w.alloc (.cells #[.string s] 102)) (.bool false) 4
  rw [World.size_alloc] at h2
  exact ⟨(row1 w (.string s) 102).alloc _, h2, ((Below.refl _ _).alloc (Nat.le_refl _) _).alloc (by simp) _⟩
theorem HeldA.cells {w : World} {s : ByteArray} {W : World} (h : HeldA w s W) : W.cell? ⟨w.heap.size, 0, none⟩ = some (.string s) ∧ W.cell? ⟨w.heap.size + 1, 0, none⟩ = some (.bool false) ∧ W.frozen? ⟨w.heap.size + 1, 0, none⟩ = false :=
  ⟨h.1.cell (by omega), h.2.1.cell (by omega), h.2.1.frozen 0⟩
theorem HeldA.below {w : World} {s : ByteArray} {W W' : World} (h : HeldA w s W) (hb : Below W.heap.size W W') : HeldA w s W' :=
  ⟨h.1.of_block (hb.block _ h.1.lt), h.2.1.of_block (hb.block _ h.2.1.lt), h.2.2.trans (hb.mono h.2.2.size)⟩
theorem HeldA.put {w : World} {s : ByteArray} {W : World} (h : HeldA w s W) {l : Nat} {o o' : Obj} (hl : W.heap[l]? = some o) (ho : o.isCells = false) (hw : w.heap.size ≤ l) : HeldA w s (W.putObj l o') :=
  ⟨row_put h.1 hl ho, row_put h.2.1 hl ho, below_put h.2.2 o' hw⟩
theorem HeldA.set {w : World} {s : ByteArray} {W : World} (h : HeldA w s W) {b : Nat} (hb : w.heap.size + 2 ≤ b) (v : Value) : HeldA w s (W.setCell ⟨b, 0, none⟩ v) :=
  ⟨h.1.setOther (by show w.heap.size ≠ b; omega) _, h.2.1.setOther (by show w.heap.size + 1 ≠ b; omega) _, h.2.2.setCell (p := ⟨b, 0, none⟩) (by show w.heap.size ≤ b; omega) _⟩
theorem HeldA.stay {w : World} {s : ByteArray} {W : World} (h : HeldA w s W) : HeldA w s (W.setCell ⟨w.heap.size + 1, 0, none⟩ (.bool false)) :=
  ⟨h.1.setOther (by simp) _, (h.2.1.set 0 (.bool false)).congr (fun i hi => by rw [if_pos (by omega)]), h.2.2.setCell (p := ⟨w.heap.size + 1, 0, none⟩) (by simp) _⟩

/-- Between two rounds: where the next part is sought from. -/
def RoundA (tk : Nat → UInt8 → Bool) (n : Nat) (last : List UInt8) (o bA m : Nat) (w : World) (s : ByteArray) (pre : List ByteArray) (W : World) : Prop :=
  HeldA w s W ∧ m ≤ W.heap.size ∧ ∃ v : Nat, v ≤ n ∧ W.rowIs bA 3 1 (fun _ => .int .i64 v) ∧ ∀ ts, Greedy tk n last (pre.map bs ++ ts) o ↔ Greedy tk n last ts v
/-- A part was not found. -/
def StopA (tk : Nat → UInt8 → Bool) (n : Nat) (last : List UInt8) (o : Nat) (w : World) (s : ByteArray) (pre : List ByteArray) (W : World) : Prop :=
  HeldA w s W ∧ ∀ ts, ¬ Greedy tk n last (pre.map bs ++ ts) o

theorem endA {w : World} {s : ByteArray} {W : World} (h : HeldA w s W) {Df : Nat} (hK : W.heap[Df]? = some (.deferred (some []))) (hD : w.heap.size ≤ Df) (b : Bool) :
    ((W.setCell ⟨w.heap.size + 1, 0, none⟩ (.bool b)).putObj Df (.deferred none)).cell? ⟨w.heap.size + 1, 0, none⟩ = some (.bool b) ∧ Below w.heap.size w ((W.setCell ⟨w.heap.size + 1, 0, none⟩ (.bool b)).putObj Df (.deferred none)) ∧ (W.setCell ⟨w.heap.size + 1, 0, none⟩ (.bool b)).heap[Df]? = some (.deferred (some [])) := by
  have hK' := (KeepsOthers.setCell W ⟨w.heap.size + 1, 0, none⟩ (.bool b)).same Df _ hK rfl
  exact ⟨(row_put (h.2.1.set 0 (.bool b)) hK' rfl).cell (by omega), below_put (h.2.2.setCell (p := ⟨w.heap.size + 1, 0, none⟩) (by simp) _) _ hD, hK'⟩

/-- matchAt, index and len over this subject answer as tk says. -/
def MatchA (tk : Nat → UInt8 → Bool) (n : Nat) (s : ByteArray) (w : World) : Prop := ∀ (t : ByteArray) (i : Nat) (W : World), t.size ≤ 1048576 → i ≤ 4194304 → Below w.heap.size w W → Calls Tryd.prog 61 #[.string s, .string t, .int .i64 i] W fun e w' => e = .returned (.bool (matchB tk n (bs t) i)) ∧ Below W.heap.size W w'
def IndexA (tk : Nat → UInt8 → Bool) (n : Nat) (s : ByteArray) (w : World) : Prop := ∀ (t : ByteArray) (a : Nat) (W : World), t.size ≤ 1048576 → a ≤ n → Below w.heap.size w W → Calls Tryd.prog 62 #[.string s, .string t, .int .i64 a] W fun e w' => e = .returned (.int .i64 (idxI tk n (bs t) a)) ∧ Below W.heap.size W w'
def LenA (n : Nat) (s : ByteArray) : Prop := ∀ (W : World), Calls Tryd.prog 103 #[.string s] W fun e w' => e = .returned (.int .i64 n) ∧ Below W.heap.size W w'

set_option maxHeartbeats 800000 in
set_option maxRecDepth 100000 in
theorem plainA (tk : Nat → UInt8 → Bool) (n : Nat) (s : ByteArray) (p : ByteArray) (w : World) (hp : p.size ≤ 1048576) (HM : Hid (MatchA tk n s w)) (HL : Hid (LenA n s)) (hm1 : ∀ w, (method 262 102 (.string s) "example.com/ensec/ensec/internal/policy.len").run Tryd.prog w = .ok (103, .string s) w) (hst : Lib.indexByte (bs p) 42 < 0) :
    Calls Tryd.prog 51 #[.string p, .string s] w fun e w' => e = .returned (.bool (D tk (bs p) n)) ∧ Below w.heap.size w w' := by
  have hA := hid (HeldA.start w s)
  have HC := hid (show cutV p = .tuple #[.string p, .string ⟨#[]⟩, .bool false] by unfold cutV; rw [if_pos hst])
  have HW := hid (wild_plain tk n p hst)
  clear hst
  have hMf := hid (HM.out p 0)
  obtain ⟨b, hb⟩ : ∃ b, matchB tk n (bs p) 0 = b := ⟨_, rfl⟩
  rw [hb] at HW hMf
  clear hb
  go_enter Tryd.func51, Tryd.ntmps51
  by_cases hz : p.size = n
  · have hzb : ((p.size : Int) == (n : Int)) = true := beq_iff_eq.2 (by omega)
    go_wp2_with (first
      | (go_at_call 40; refine (st_cut p _ hp).mono ?_; rw [HC.out]; rintro e w1 ⟨rfl, hb1⟩; have hA1 := hid (hA.out.below hb1); obtain ⟨c0, c1, z1⟩ := hA1.out.cells)
      | (go_at_call 103; refine (HL.out _).mono ?_; rintro e w2 ⟨rfl, hb2⟩; have hA2 := hid (hA1.out.below hb2); obtain ⟨c0, c1, z1⟩ := hA2.out.cells)
      | (go_at_call 61; refine (hMf.out _ hp (by omega) hA2.out.2.2).mono ?_; rintro e w3 ⟨rfl, hb3⟩; have hA3 := hid (hA2.out.below hb3); obtain ⟨c0, c1, z1⟩ := hA3.out.cells))
    have hE := (hA3.out.2.1.set 0 (.bool b)).cell (i := 0) (by omega)
    rw [if_pos rfl] at hE
    refine bodyPost_ret (v := .bool b) (by simp [results, Tryd.f51, go_sem, hE]) rfl ?_
    exact ⟨ret_bool (by rw [HW.out, decide_eq_true hz, Bool.true_and]), hA3.out.2.2.setCell (p := ⟨w.heap.size + 1, 0, none⟩) (by simp) _⟩
  · have hzb : ((p.size : Int) == (n : Int)) = false := beq_eq_false_iff_ne.2 (by omega)
    go_wp2_with (first
      | (go_at_call 40; refine (st_cut p _ hp).mono ?_; rw [HC.out]; rintro e w1 ⟨rfl, hb1⟩; have hA1 := hid (hA.out.below hb1); obtain ⟨c0, c1, z1⟩ := hA1.out.cells)
      | (go_at_call 103; refine (HL.out _).mono ?_; rintro e w2 ⟨rfl, hb2⟩; have hA2 := hid (hA1.out.below hb2); obtain ⟨c0, c1, z1⟩ := hA2.out.cells))
    have hE := (hA2.out.2.1.set 0 (.bool false)).cell (i := 0) (by omega)
    rw [if_pos rfl] at hE
    refine bodyPost_ret (v := .bool false) (by simp [results, Tryd.f51, go_sem, hE]) rfl ?_
    exact ⟨ret_bool (by rw [HW.out, decide_eq_false hz, Bool.false_and]), hA2.out.2.2.setCell (p := ⟨w.heap.size + 1, 0, none⟩) (by simp) _⟩

set_option maxHeartbeats 800000 in
set_option maxRecDepth 100000 in
theorem noA (tk : Nat → UInt8 → Bool) (n : Nat) (s : ByteArray) (p : ByteArray) (w : World) (hp : p.size ≤ 1048576) (HM : Hid (MatchA tk n s w)) (first rest : ByteArray) (hz1 : first.size ≤ 1048576) (HC : Hid (cutV p = .tuple #[.string first, .string rest, .bool true])) (hbf : matchB tk n (bs first) 0 = false) (hG : Hid (D tk (bs p) n = false)) :
    Calls Tryd.prog 51 #[.string p, .string s] w fun e w' => e = .returned (.bool (D tk (bs p) n)) ∧ Below w.heap.size w w' := by
  have hA := hid (HeldA.start w s)
  have hMf := hid (HM.out first 0)
  rw [hbf] at hMf
  clear hbf
  go_enter Tryd.func51, Tryd.ntmps51
  go_wp2_with (first
    | (go_at_call 40; refine (st_cut p _ hp).mono ?_; rw [HC.out]; rintro e w1 ⟨rfl, hb1⟩; have hA1 := hid (hA.out.below hb1); obtain ⟨c0, c1, z1⟩ := hA1.out.cells)
    | (go_at_call 61; refine (hMf.out _ hz1 (by omega) hA1.out.2.2).mono ?_; rintro e w3 ⟨rfl, hb3⟩; have hA3 := hid (hA1.out.below hb3); obtain ⟨c0, c1, z1⟩ := hA3.out.cells))
  have hE := (hA3.out.2.1.set 0 (.bool false)).cell (i := 0) (by omega)
  rw [if_pos rfl] at hE
  refine bodyPost_ret (v := .bool false) (by simp [results, Tryd.f51, go_sem, hE]) rfl ?_
  exact ⟨ret_bool hG.out.symm, hA3.out.2.2.setCell (p := ⟨w.heap.size + 1, 0, none⟩) (by simp) _⟩
end Go.Proofs.Qxb6613124aDoor
