/-
  A RANGE OVER A FUNCTION WHOSE ITERATOR KEEPS STATE IN A CELL OF ITS OWN (strings.SplitSeq's closure: its variable s): the law of this seat's own, over the guide's laws L1 and L2. The guide's laws for a caller (SeqStops and its kin) ask of the iterator that it writes no cell; here the caller's invariant abides stores into the iterator's cell.
-/
import Derived.RangeFuncNested
import Derived.RangeFuncBound
import Derived.RangeFuncCalls
import Derived.RangeFuncLeaves
import Derived.Deep.OwnRows
namespace Go.Proofs.Qxb6613124aDoor
open Go.RowKit

/-- The blocks m1 .. m2 lie as they lay. -/
def KeepsRun (m1 m2 : Nat) (A B : World) : Prop := ∀ b, m1 ≤ b → b < m2 → B.heap[b]? = A.heap[b]?
theorem KeepsRun.refl (m1 m2 : Nat) (A : World) : KeepsRun m1 m2 A A := fun _ _ _ => rfl
theorem KeepsRun.trans {m1 m2 : Nat} {A B C : World} (h : KeepsRun m1 m2 A B) (k : KeepsRun m1 m2 B C) : KeepsRun m1 m2 A C := fun b h1 h2 => (k b h1 h2).trans (h b h1 h2)
theorem KeepsRun.put {m1 m2 : Nat} (A : World) (l : Nat) (o : Obj) (h : m2 ≤ l) : KeepsRun m1 m2 A (A.putObj l o) := fun b _ h2 => World.putObj_heap_other (by omega)

/-- How a round's body may be left: on, or by return. -/
def roundLeft {α : Type} (m1 m2 : Nat) (I Ix : List α → World → Prop) (xs : List α) (W : World) : Exit → Act → World → Prop
  | .normal, _, W' => KeepsOthers W W' ∧ KeepsRun m1 m2 W W' ∧ I xs W'
  | .ret, _, W' => KeepsOthers W W' ∧ Ix xs W'
  | _, _, _ => False

/-- The iterator's contract: its own cell is at block Bs; the rounds keep the blocks m1 .. m2. -/
def StateSeq {α : Type} (F : Fence) (n : Nat) (P : Program) (gf : Nat) (lb : Array Value) (encs : α → Array Value) (m1 m2 Bs : Nat) (It : World → Prop) (xs : List α) : Prop :=
  ∀ (l : Nat) (J Jx : List α → World → Prop) (W : World),
    (∀ pre A v, J pre A → J pre (A.setCell ⟨Bs, 0, none⟩ v)) →
    (∀ pre x W1, pre ++ [x] <+: xs → J pre W1 → YieldAt F (n - 1) P l (encs x) W1 fun e W' => (e = .returned (.bool true) ∧ J (pre ++ [x]) W' ∧ KeepsRun m1 m2 W1 W') ∨ (e = .returned (.bool false) ∧ Jx (pre ++ [x]) W')) →
    It W → J [] W →
    CallsIn F n P gf (#[.func (.yield l) #[] #[]] ++ lb) W fun e W' => (∃ v, e = .returned v) ∧ (J xs W' ∨ ∃ pre, pre <+: xs ∧ Jx pre W')

theorem range_state {α : Type} {F : Fence} {n : Nat} {P : Program} {g : Operand} {ps : Array Tmp} {assign body : Code} {Q : Exit → Act → World → Prop} {a : Act} {w : World}
    (hro : F.round = none) (h1 : 1 ≤ n) {gf : Nat} {lb : Array Value} (hg : a.eval g = .func (.func gf) #[] lb) (hFg : F.fn gf) (eg : ∀ args w, (callFunc gf args).run P w = .ok (.enter gf args) w)
    {encs : α → Array Value} {m1 Bs : Nat} {It : World → Prop} {xs : List α} (hseq : StateSeq F (n - 1) P gf lb encs m1 w.heap.size Bs It xs) (hBs : Bs < w.heap.size) (hps : ∀ x, (encs x).size = ps.size)
    (I Ix : List α → World → Prop)
    (hIs : ∀ pre W v, I pre W → I pre (W.setCell ⟨Bs, 0, none⟩ v))
    (hIb : ∀ pre W l o o', w.heap.size ≤ l → W.heap[l]? = some o → o.isCells = false → I pre W → I pre (W.putObj l o'))
    (hXb : ∀ pre W l o o', w.heap.size ≤ l → W.heap[l]? = some o → o.isCells = false → Ix pre W → Ix pre (W.putObj l o'))
    (h0 : ∀ o1 o2, I [] ((w.alloc o1).alloc o2)) (hIt : ∀ o1 o2, It ((w.alloc o1).alloc o2)) (a1 : α → Act)
    (hassign : ∀ (l : Nat) (x : α) (W : World) (K : Act → World → Prop), K (a1 x) W → assign.wpIn (F.inRound l) (n - 1 - 1) P (Exit.then K (fun _ _ _ => False)) { tmps := (ps.zip (encs x)).foldl (fun t (p, v) => t.setIfInBounds p v) a.tmps, defers := [] } W)
    (hbody : ∀ (l : Nat) (pre : List α) (x : α) (W : World), pre ++ [x] <+: xs → I pre W → body.wpIn (F.inRound l) (n - 1 - 1) P (roundLeft m1 w.heap.size I Ix (pre ++ [x]) W) (a1 x) W)
    (hdone : ∀ (D : Nat) (W : World), w.heap.size ≤ D → I xs W → W.heap[D]? = some (.deferred (some [])) → Q .normal { a with defers := { target := .collected D, args := #[] } :: a.defers } W)
    (hstop : ∀ (D : Nat) (pre : List α) (W : World), w.heap.size ≤ D → pre <+: xs → Ix pre W → W.heap[D]? = some (.deferred (some [])) → Code.ret.wpIn F n P Q { a with defers := { target := .collected D, args := #[] } :: a.defers } W) :
    (Code.rangeFunc g ps assign body).wpIn F n P Q a w := by
  refine wpIn_rangeFunc ?_
  intro fn hfn
  rw [hro]
  obtain ⟨mk, hmk⟩ : ∃ mk : LoopState → Option Code → Loop, mk = fun st pe => { state := st, pending := pe, fn, tmps := a.tmps, params := ps, assign, body, defers := w.heap.size } := ⟨_, rfl⟩
  have hD : ((w.alloc (.deferred (some []))).alloc (.loop (mk .ready none))).heap[w.heap.size]? = some (.deferred (some [])) :=
    (Below.heap_alloc _ _ _ (by simp)).trans (World.alloc_heap_new w _)
  have hL : ((w.alloc (.deferred (some []))).alloc (.loop (mk .ready none))).heap[w.heap.size + 1]? = some (.loop (mk .ready none)) := by
    have := World.alloc_heap_new (w.alloc (.deferred (some []))) (.loop (mk .ready none))
    rwa [World.size_alloc] at this
  have hI0 := h0 (.deferred (some [])) (.loop (mk .ready none))
  have hT0 := hIt (.deferred (some [])) (.loop (mk .ready none))
  have hent : (Instr.enterLoop fn a.tmps ps assign body none).run P w = .ok (w.heap.size + 1, [{ target := .collected w.heap.size, args := #[] }]) ((w.alloc (.deferred (some []))).alloc (.loop (mk .ready none))) := by
    rw [hmk]; exact run_enterLoop_outer _ _ _ _ _
  generalize (w.alloc (.deferred (some []))).alloc (.loop (mk .ready none)) = W0 at *
  refine ⟨w.heap.size + 1, _, W0, { target := .fn (.func gf) lb, args := #[.func (.yield (w.heap.size + 1)) #[] #[]] }, W0, gf, #[.func (.yield (w.heap.size + 1)) #[] #[]] ++ lb, W0, hent, ?_, ?_, ?_, fun _ => h1, ?_⟩
  · simp only [resolve, hg]
    simp [go_sem]
  · intro f' hf'
    simp [Target.leads] at hf'
    subst hf'
    exact hFg
  · simp [invoke, go_sem, eg]
  refine (hseq (w.heap.size + 1)
    (fun pre W => I pre W ∧ W.heap[w.heap.size + 1]? = some (.loop (mk .ready none)) ∧ W.heap[w.heap.size]? = some (.deferred (some [])))
    (fun pre W => Ix pre W ∧ W.heap[w.heap.size + 1]? = some (.loop (mk .done (some .ret))) ∧ W.heap[w.heap.size]? = some (.deferred (some [])))
    W0 (fun pre A v hs => ⟨hIs pre A v hs.1, (Go.Deep.blk_setCell_other _ _ _ _ (by show w.heap.size + 1 ≠ Bs; omega)).trans hs.2.1, (Go.Deep.blk_setCell_other _ _ _ _ (by show w.heap.size ≠ Bs; omega)).trans hs.2.2⟩) ?_ hT0 ⟨hI0, hL, hD⟩).mono ?_
  · rintro pre x W hpx ⟨hi, hl, hd⟩
    have hlt : w.heap.size + 1 < W.heap.size := (Array.getElem?_eq_some_iff.1 hl).1
    have hy := run_yield (P := P) (args := encs x) hl (by rw [hmk]; exact hps x)
    have hbeg := run_beginRound (P := P) hl (by rw [hmk])
    rw [hmk] at hy
    refine ⟨fn, _, assign, body, hy, roundIn_of_wpIn hfn (hassign _ x W _ ⟨_, hbeg, ?_⟩)⟩
    refine wpIn_mono (hbody _ pre x _ hpx (hIb pre W _ _ _ (by omega) hl rfl hi)) ?_
    rintro e a3 W3 hp
    cases e with
    | normal =>
      obtain ⟨hk, hr, hi3⟩ := hp
      have hl3 := hk.same _ _ (World.putObj_heap_same hlt) rfl
      have hd3 := hk.same _ _ ((World.putObj_heap_other (by omega)).trans hd) rfl
      refine ⟨_, _, run_endRound none hl3, .inl ⟨rfl, ⟨hIb _ _ _ _ _ (by omega) hl3 rfl hi3, ?_, (World.putObj_heap_other (by omega)).trans hd3⟩, ((KeepsRun.put W _ _ (by omega)).trans hr).trans (KeepsRun.put _ _ _ (by omega))⟩⟩
      rw [World.putObj_heap_same (Array.getElem?_eq_some_iff.1 hl3).1, hmk]
      rfl
    | ret =>
      obtain ⟨hk, hi3⟩ := hp
      have hl3 := hk.same _ _ (World.putObj_heap_same hlt) rfl
      have hd3 := hk.same _ _ ((World.putObj_heap_other (by omega)).trans hd) rfl
      refine ⟨_, _, run_endRound (some .ret) hl3, .inr ⟨rfl, hXb _ _ _ _ _ (by omega) hl3 rfl hi3, ?_, (World.putObj_heap_other (by omega)).trans hd3⟩⟩
      rw [World.putObj_heap_same (Array.getElem?_eq_some_iff.1 hl3).1, hmk]
      rfl
    | exit id => exact hp.elim
    | goto t => exact hp.elim
    | panic ch => exact hp.elim
    | outgrown => exact hp.elim
  · rintro e W2 ⟨⟨v, rfl⟩, (⟨hi, hl, hd⟩ | ⟨pre, hpx, hi, hl, hd⟩)⟩
    · have he := run_endLoop (P := P) hl (by rw [hmk]; simp)
      rw [hmk] at he
      exact ⟨none, _, he, hdone _ _ (Nat.le_refl _) (hIb _ _ _ _ _ (by omega) hl rfl hi) ((World.putObj_heap_other (by omega)).trans hd)⟩
    · have he := run_endLoop (P := P) hl (by rw [hmk]; simp)
      rw [hmk] at he
      exact ⟨some .ret, _, he, hstop _ pre _ (Nat.le_refl _) hpx (hXb _ _ _ _ _ (by omega) hl rfl hi) ((World.putObj_heap_other (by omega)).trans hd)⟩
end Go.Proofs.Qxb6613124aDoor
