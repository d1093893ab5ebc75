/-
  What the walk of wildcardMatch over a target (23) holds.
-/
import Derived.Test.Qxb6613124aDoorHeldA
namespace Go.Proofs.Qxb6613124aDoor
open Go.RowKit Go.Shelf
attribute [local go_sem] Oper.semAt_some

/-- What the walk holds between its statements: the boxed subject at b, the result's cell at b + 1. -/
def HeldT (w : World) (s : ByteArray) (L : Nat) (g : ByteArray) (ev : Bool) (W : World) : Prop := W.rowIs w.heap.size 74 4 (fun j => (#[.string s, .int .i64 L, .string g, .bool ev] : Array Value).getD j undef) ∧ W.rowIs (w.heap.size + 1) 4 1 (fun _ => .bool false) ∧ Below w.heap.size w W
theorem HeldT.start (w : World) (s : ByteArray) (L : Nat) (g : ByteArray) (ev : Bool) : HeldT w s L g ev ((w.alloc (.cells #[.string s, .int .i64 L, .string g, .bool ev] 74)).alloc (.cells #[.bool false] 4)) := by
  have h2 := row1 (w.alloc (.cells #[.string s, .int .i64 L, .string g, .bool ev] 74)) (.bool false) 4
  rw [World.size_alloc] at h2
  exact ⟨(row_lit w #[.string s, .int .i64 L, .string g, .bool ev] 74).alloc _, h2, ((Below.refl _ _).alloc (Nat.le_refl _) _).alloc (by simp) _⟩
theorem HeldT.cells {w : World} {s : ByteArray} {L : Nat} {g : ByteArray} {ev : Bool} {W : World} (h : HeldT w s L g ev W) : (W.cell? ⟨w.heap.size, 0, none⟩ = some (.string s) ∧ W.cell? ⟨w.heap.size, 1, none⟩ = some (.int .i64 L) ∧ W.cell? ⟨w.heap.size, 2, none⟩ = some (.string g) ∧ W.cell? ⟨w.heap.size, 3, none⟩ = some (.bool ev)) ∧ W.cell? ⟨w.heap.size + 1, 0, none⟩ = some (.bool false) ∧ W.frozen? ⟨w.heap.size + 1, 0, none⟩ = false :=
  ⟨⟨h.1.cell (i := 0) (by omega), h.1.cell (i := 1) (by omega), h.1.cell (i := 2) (by omega), h.1.cell (i := 3) (by omega)⟩, h.2.1.cell (by omega), h.2.1.frozen 0⟩
theorem HeldT.below {w : World} {s : ByteArray} {L : Nat} {g : ByteArray} {ev : Bool} {W W' : World} (h : HeldT w s L g ev W) (hb : Below W.heap.size W W') : HeldT w s L g ev W' :=
  ⟨h.1.of_block (hb.block _ h.1.lt), h.2.1.of_block (hb.block _ h.2.1.lt), h.2.2.trans (hb.mono h.2.2.size)⟩
theorem HeldT.put {w : World} {s : ByteArray} {L : Nat} {g : ByteArray} {ev : Bool} {W : World} (h : HeldT w s L g ev W) {l : Nat} {o o' : Obj} (hl : W.heap[l]? = some o) (ho : o.isCells = false) (hw : w.heap.size ≤ l) : HeldT w s L g ev (W.putObj l o') :=
  ⟨row_put h.1 hl ho, row_put h.2.1 hl ho, below_put h.2.2 o' hw⟩
theorem HeldT.set {w : World} {s : ByteArray} {L : Nat} {g : ByteArray} {ev : Bool} {W : World} (h : HeldT w s L g ev W) {b : Nat} (hb : w.heap.size + 2 ≤ b) (v : Value) : HeldT w s L g ev (W.setCell ⟨b, 0, none⟩ v) :=
  ⟨h.1.setOther (by show w.heap.size ≠ b; omega) _, h.2.1.setOther (by show w.heap.size + 1 ≠ b; omega) _, h.2.2.setCell (p := ⟨b, 0, none⟩) (by show w.heap.size ≤ b; omega) _⟩
theorem HeldT.stay {w : World} {s : ByteArray} {L : Nat} {g : ByteArray} {ev : Bool} {W : World} (h : HeldT w s L g ev W) : HeldT w s L g ev (W.setCell ⟨w.heap.size + 1, 0, none⟩ (.bool false)) :=
  ⟨h.1.setOther (by simp) _, (h.2.1.set 0 (.bool false)).congr (fun i hi => by rw [if_pos (by omega)]), h.2.2.setCell (p := ⟨w.heap.size + 1, 0, none⟩) (by simp) _⟩

/-- Between two rounds: where the next part is sought from. -/
def RoundT (tk : Nat → UInt8 → Bool) (n : Nat) (last : List UInt8) (o bA m : Nat) (w : World) (s : ByteArray) (L : Nat) (g : ByteArray) (ev : Bool) (pre : List ByteArray) (W : World) : Prop :=
  HeldT w s L g ev W ∧ m ≤ W.heap.size ∧ ∃ v : Nat, v ≤ n ∧ W.rowIs bA 3 1 (fun _ => .int .i64 v) ∧ ∀ ts, Greedy tk n last (pre.map bs ++ ts) o ↔ Greedy tk n last ts v
/-- A part was not found. -/
def StopT (tk : Nat → UInt8 → Bool) (n : Nat) (last : List UInt8) (o : Nat) (w : World) (s : ByteArray) (L : Nat) (g : ByteArray) (ev : Bool) (pre : List ByteArray) (W : World) : Prop :=
  HeldT w s L g ev W ∧ ∀ ts, ¬ Greedy tk n last (pre.map bs ++ ts) o

theorem endT {w : World} {s : ByteArray} {L : Nat} {g : ByteArray} {ev : Bool} {W : World} (h : HeldT w s L g ev W) {Df : Nat} (hK : W.heap[Df]? = some (.deferred (some []))) (hD : w.heap.size ≤ Df) (b : Bool) :
    ((W.setCell ⟨w.heap.size + 1, 0, none⟩ (.bool b)).putObj Df (.deferred none)).cell? ⟨w.heap.size + 1, 0, none⟩ = some (.bool b) ∧ Below w.heap.size w ((W.setCell ⟨w.heap.size + 1, 0, none⟩ (.bool b)).putObj Df (.deferred none)) ∧ (W.setCell ⟨w.heap.size + 1, 0, none⟩ (.bool b)).heap[Df]? = some (.deferred (some [])) := by
  have hK' := (KeepsOthers.setCell W ⟨w.heap.size + 1, 0, none⟩ (.bool b)).same Df _ hK rfl
  exact ⟨(row_put (h.2.1.set 0 (.bool b)) hK' rfl).cell (by omega), below_put (h.2.2.setCell (p := ⟨w.heap.size + 1, 0, none⟩) (by simp) _) _ hD, hK'⟩

/-- matchAt, index and len over this subject answer as tk says. -/
def MatchT (tk : Nat → UInt8 → Bool) (n : Nat) (s : ByteArray) (L : Nat) (g : ByteArray) (ev : Bool) (w : World) : Prop := ∀ (t : ByteArray) (i : Nat) (W : World), t.size ≤ 1048576 → i ≤ 4194304 → Below w.heap.size w W → Calls Tryd.prog 41 #[.agg #[.string s, .int .i64 L, .string g, .bool ev], .string t, .int .i64 i] W fun e w' => e = .returned (.bool (matchB tk n (bs t) i)) ∧ Below W.heap.size W w'
def IndexT (tk : Nat → UInt8 → Bool) (n : Nat) (s : ByteArray) (L : Nat) (g : ByteArray) (ev : Bool) (w : World) : Prop := ∀ (t : ByteArray) (a : Nat) (W : World), t.size ≤ 1048576 → a ≤ n → Below w.heap.size w W → Calls Tryd.prog 44 #[.agg #[.string s, .int .i64 L, .string g, .bool ev], .string t, .int .i64 a] W fun e w' => e = .returned (.int .i64 (idxI tk n (bs t) a)) ∧ Below W.heap.size W w'
def LenT (n : Nat) (s : ByteArray) (L : Nat) (g : ByteArray) (ev : Bool) : Prop := ∀ (W : World), Calls Tryd.prog 45 #[.agg #[.string s, .int .i64 L, .string g, .bool ev]] W fun e w' => e = .returned (.int .i64 n) ∧ Below W.heap.size W w'

set_option maxHeartbeats 800000 in
set_option maxRecDepth 100000 in
theorem plainT (tk : Nat → UInt8 → Bool) (n : Nat) (s : ByteArray) (L : Nat) (g : ByteArray) (ev : Bool) (p : ByteArray) (w : World) (hp : p.size ≤ 1048576) (HM : Hid (MatchT tk n s L g ev w)) (HL : Hid (LenT n s L g ev)) (hm1 : ∀ w, (method 262 74 (.agg #[.string s, .int .i64 L, .string g, .bool ev]) "example.com/ensec/ensec/internal/policy.len").run Tryd.prog w = .ok (45, .agg #[.string s, .int .i64 L, .string g, .bool ev]) w) (hst : Lib.indexByte (bs p) 42 < 0) :
    Calls Tryd.prog 23 #[.string p, .agg #[.string s, .int .i64 L, .string g, .bool ev]] w fun e w' => e = .returned (.bool (D tk (bs p) n)) ∧ Below w.heap.size w w' := by
  have hA := hid (HeldT.start w s L g ev)
  have HC := hid (show cutV p = .tuple #[.string p, .string ⟨#[]⟩, .bool false] by unfold cutV; rw [if_pos hst])
  have HW := hid (wild_plain tk n p hst)
  clear hst
  have hMf := hid (HM.out p 0)
  obtain ⟨b, hb⟩ : ∃ b, matchB tk n (bs p) 0 = b := ⟨_, rfl⟩
  rw [hb] at HW hMf
  clear hb
  go_enter Tryd.func23, Tryd.ntmps23
  by_cases hz : p.size = n
  · have hzb : ((p.size : Int) == (n : Int)) = true := beq_iff_eq.2 (by omega)
    go_wp2_with (first
      | (go_at_call 40; refine (st_cut p _ hp).mono ?_; rw [HC.out]; rintro e w1 ⟨rfl, hb1⟩; have hA1 := hid (hA.out.below hb1); obtain ⟨⟨c0, c5, c6, c7⟩, c1, z1⟩ := hA1.out.cells)
      | (go_at_call 45; refine (HL.out _).mono ?_; rintro e w2 ⟨rfl, hb2⟩; have hA2 := hid (hA1.out.below hb2); obtain ⟨⟨c0, c5, c6, c7⟩, c1, z1⟩ := hA2.out.cells)
      | (go_at_call 41; refine (hMf.out _ hp (by omega) hA2.out.2.2).mono ?_; rintro e w3 ⟨rfl, hb3⟩; have hA3 := hid (hA2.out.below hb3); obtain ⟨⟨c0, c5, c6, c7⟩, c1, z1⟩ := hA3.out.cells))
    have hE := (hA3.out.2.1.set 0 (.bool b)).cell (i := 0) (by omega)
    rw [if_pos rfl] at hE
    refine bodyPost_ret (v := .bool b) (by simp [results, Tryd.f23, go_sem, hE]) rfl ?_
    exact ⟨ret_bool (by rw [HW.out, decide_eq_true hz, Bool.true_and]), hA3.out.2.2.setCell (p := ⟨w.heap.size + 1, 0, none⟩) (by simp) _⟩
  · have hzb : ((p.size : Int) == (n : Int)) = false := beq_eq_false_iff_ne.2 (by omega)
    go_wp2_with (first
      | (go_at_call 40; refine (st_cut p _ hp).mono ?_; rw [HC.out]; rintro e w1 ⟨rfl, hb1⟩; have hA1 := hid (hA.out.below hb1); obtain ⟨⟨c0, c5, c6, c7⟩, c1, z1⟩ := hA1.out.cells)
      | (go_at_call 45; refine (HL.out _).mono ?_; rintro e w2 ⟨rfl, hb2⟩; have hA2 := hid (hA1.out.below hb2); obtain ⟨⟨c0, c5, c6, c7⟩, c1, z1⟩ := hA2.out.cells))
    have hE := (hA2.out.2.1.set 0 (.bool false)).cell (i := 0) (by omega)
    rw [if_pos rfl] at hE
    refine bodyPost_ret (v := .bool false) (by simp [results, Tryd.f23, go_sem, hE]) rfl ?_
    exact ⟨ret_bool (by rw [HW.out, decide_eq_false hz, Bool.false_and]), hA2.out.2.2.setCell (p := ⟨w.heap.size + 1, 0, none⟩) (by simp) _⟩

set_option maxHeartbeats 800000 in
set_option maxRecDepth 100000 in
theorem noT (tk : Nat → UInt8 → Bool) (n : Nat) (s : ByteArray) (L : Nat) (g : ByteArray) (ev : Bool) (p : ByteArray) (w : World) (hp : p.size ≤ 1048576) (HM : Hid (MatchT tk n s L g ev w)) (first rest : ByteArray) (hz1 : first.size ≤ 1048576) (HC : Hid (cutV p = .tuple #[.string first, .string rest, .bool true])) (hbf : matchB tk n (bs first) 0 = false) (hG : Hid (D tk (bs p) n = false)) :
    Calls Tryd.prog 23 #[.string p, .agg #[.string s, .int .i64 L, .string g, .bool ev]] w fun e w' => e = .returned (.bool (D tk (bs p) n)) ∧ Below w.heap.size w w' := by
  have hA := hid (HeldT.start w s L g ev)
  have hMf := hid (HM.out first 0)
  rw [hbf] at hMf
  clear hbf
  go_enter Tryd.func23, Tryd.ntmps23
  go_wp2_with (first
    | (go_at_call 40; refine (st_cut p _ hp).mono ?_; rw [HC.out]; rintro e w1 ⟨rfl, hb1⟩; have hA1 := hid (hA.out.below hb1); obtain ⟨⟨c0, c5, c6, c7⟩, c1, z1⟩ := hA1.out.cells)
    | (go_at_call 41; refine (hMf.out _ hz1 (by omega) hA1.out.2.2).mono ?_; rintro e w3 ⟨rfl, hb3⟩; have hA3 := hid (hA1.out.below hb3); obtain ⟨⟨c0, c5, c6, c7⟩, c1, z1⟩ := hA3.out.cells))
  have hE := (hA3.out.2.1.set 0 (.bool false)).cell (i := 0) (by omega)
  rw [if_pos rfl] at hE
  refine bodyPost_ret (v := .bool false) (by simp [results, Tryd.f23, go_sem, hE]) rfl ?_
  exact ⟨ret_bool hG.out.symm, hA3.out.2.2.setCell (p := ⟨w.heap.size + 1, 0, none⟩) (by simp) _⟩
end Go.Proofs.Qxb6613124aDoor
