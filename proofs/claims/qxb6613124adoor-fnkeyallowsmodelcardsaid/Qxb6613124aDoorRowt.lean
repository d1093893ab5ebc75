/-
  THE ROW of cloned statements.
-/
import Derived.Test.Qxb6613124aDoorConds
import Derived.Test.Qxb6613124aDoorEqual
namespace Go.Proofs.Qxb6613124aDoor
open Go.RowKit

theorem info36 : (Tryd.prog.info? 36).map (fun i => (i.zero, i.size, i.bytes)) = some (some (.agg #[.bool false, .slice none 0 0, .slice none 0 0, .slice none 0 0, .slice none 0 0]), 5, 104) := by kernel_rfl
theorem make_stmts (n : Nat) (h : n ≤ 1048576) (w : World) :
    (Instr.makeSlice 32 (.int .i64 n) (.int .i64 n)).run Tryd.prog w = .ok (.slice (some ⟨w.heap.size, 0, none⟩) n n) (w.alloc (.cells (madeCells #[.bool false, .slice none 0 0, .slice none 0 0, .slice none 0 0, .slice none 0 0] (n * 5)) 36)) := by
  obtain ⟨i, hi, hz0, hz1, hz2⟩ := info_parts info36
  have := run_make (P := Tryd.prog) w 32 36 i _ Tryd.underlying32 hi hz0 .i64 .i64 n n (by omega) (Int.le_refl _) (by rw [hz2]; omega) (by omega)
  rw [hz1] at this
  simp only [Int.toNat_natCast] at this
  exact this

/-- The statement's parts lie in W, behind block n. -/
structure Lies (n : Nat) (v : SV) (W : World) : Prop where
  acts : StrsAt W v.pa v.acts
  res : StrsAt W v.pr v.res
  prins : StrsAt W v.pp v.prins
  conds : CondsAt W v.pc v.conds
  vals : ∀ c ∈ v.conds, StrsAt W c.p c.c.vals
  na : ∀ a, v.pa = some a → n < a.block
  nr : ∀ a, v.pr = some a → n < a.block
  np : ∀ a, v.pp = some a → n < a.block
  nc : ∀ a, v.pc = some a → n < a.block
  nv : ∀ c ∈ v.conds, ∀ a, c.p = some a → n < a.block
theorem Lies.below {n : Nat} {v : SV} {W W' : World} (h : Lies n v W) (hb : Below W.heap.size W W') : Lies n v W' :=
  ⟨h.acts.below hb, h.res.below hb, h.prins.below hb, h.conds.below hb, fun c hc => (h.vals c hc).below hb, h.na, h.nr, h.np, h.nc, h.nv⟩
theorem conds_set {n : Nat} {W : World} {p : Option Addr} {cs : List CV} (h : CondsAt W p cs) (i : Nat) (v : Value) (hne : ∀ a, p = some a → n < a.block) : CondsAt (W.setCell ⟨n, i, none⟩ v) p cs := fun h0 => by
  obtain ⟨b, o, e, hc⟩ := h h0
  refine ⟨b, o, e, fun j hj => ?_⟩
  have hb : b ≠ n := by have := hne _ e; simp at this; omega
  have e2 := Go.Deep.blk_setCell_other W ⟨n, i, none⟩ v b hb
  have := hc j hj
  simpa only [World.cell?, e2] using this
theorem Lies.set {n : Nat} {v : SV} {W : World} (h : Lies n v W) (i : Nat) (u : Value) : Lies n v (W.setCell ⟨n, i, none⟩ u) :=
  ⟨strs_set h.acts i u h.na, strs_set h.res i u h.nr, strs_set h.prins i u h.np, conds_set h.conds i u h.nc, fun c hc => strs_set (h.vals c hc) i u (h.nv c hc), h.na, h.nr, h.np, h.nc, h.nv⟩

/-- The row's first k statements are clones of ks's. -/
def RowT (w : World) (n : Nat) (ks : List SV) (k : Nat) (W : World) : Prop := ∃ (f : Nat → Value) (vs : List SV), W.rowIs w.heap.size 36 (n * 5) f ∧ vs.length = k ∧ (∀ (j : Nat) (h1 : j < vs.length) (h2 : j < ks.length), SameS vs[j] ks[j]) ∧ (∀ (j : Nat) (h : j < vs.length), f (j * 5) = .bool vs[j].deny ∧ f (j * 5 + 1) = .slice vs[j].pa vs[j].acts.length vs[j].ca ∧ f (j * 5 + 2) = .slice vs[j].pr vs[j].res.length vs[j].cr ∧ f (j * 5 + 3) = .slice vs[j].pp vs[j].prins.length vs[j].cpp ∧ f (j * 5 + 4) = .slice vs[j].pc vs[j].conds.length vs[j].cc) ∧ (∀ v ∈ vs, Lies w.heap.size v W) ∧ Below w.heap.size w W

theorem RowT.below {w : World} {n : Nat} {ks : List SV} {k : Nat} {W W' : World} (h : RowT w n ks k W) (hb : Below W.heap.size W W') : RowT w n ks k W' := by
  obtain ⟨f, vs, h1, h2, h3, h4, h5, h6⟩ := h
  exact ⟨f, vs, h1.of_block (hb.block _ h1.lt), h2, h3, h4, fun v hv => (h5 v hv).below hb, h6.trans (hb.mono h6.size)⟩
theorem RowT.start (w : World) (n : Nat) (ks : List SV) : RowT w n ks 0 (w.alloc (.cells (madeCells #[.bool false, .slice none 0 0, .slice none 0 0, .slice none 0 0, .slice none 0 0] (n * 5)) 36)) := by
  obtain ⟨f, hf⟩ := made_row w #[.bool false, .slice none 0 0, .slice none 0 0, .slice none 0 0, .slice none 0 0] (n * 5) 36
  exact ⟨f, [], hf, rfl, fun j h => by simp at h, fun j h => by simp at h, fun v h => by simp at h, (Below.refl _ _).alloc (Nat.le_refl _) _⟩

theorem RowT.step {w : World} {n : Nat} {ks : List SV} {k : Nat} {W : World} (h : RowT w n ks k W) (hk : k < ks.length) (v : SV) (hs : SameS v ks[k]) (hv : Lies w.heap.size v W) :
    RowT w n ks (k + 1) (((((W.setCell ⟨w.heap.size, k * 5, none⟩ (.bool v.deny)).setCell ⟨w.heap.size, k * 5 + 1, none⟩ (.slice v.pa v.acts.length v.ca)).setCell ⟨w.heap.size, k * 5 + 2, none⟩ (.slice v.pr v.res.length v.cr)).setCell ⟨w.heap.size, k * 5 + 3, none⟩ (.slice v.pp v.prins.length v.cpp)).setCell ⟨w.heap.size, k * 5 + 4, none⟩ (.slice v.pc v.conds.length v.cc)) := by
  obtain ⟨f, vs, h1, h2, h3, h4, h5, h6⟩ := h
  refine ⟨_, vs ++ [v], ((((h1.set (k * 5) _).set (k * 5 + 1) _).set (k * 5 + 2) _).set (k * 5 + 3) _).set (k * 5 + 4) _, by simp [h2], fun j hj1 hj2 => ?_, fun j hj => ?_, fun u hu => ?_, (((((h6.setCell (p := ⟨w.heap.size, k * 5, none⟩) (Nat.le_refl _) _).setCell (p := ⟨w.heap.size, k * 5 + 1, none⟩) (Nat.le_refl _) _).setCell (p := ⟨w.heap.size, k * 5 + 2, none⟩) (Nat.le_refl _) _).setCell (p := ⟨w.heap.size, k * 5 + 3, none⟩) (Nat.le_refl _) _).setCell (p := ⟨w.heap.size, k * 5 + 4, none⟩) (Nat.le_refl _) _)⟩
  · by_cases e : j < vs.length
    · rw [List.getElem_append_left e]; exact h3 j e hj2
    · have ej : j = k := by simp at hj1; omega
      subst ej
      rw [List.getElem_append_right (by omega)]
      simp only [h2, Nat.sub_self, List.getElem_cons_zero]
      exact hs
  · by_cases e : j < vs.length
    · rw [List.getElem_append_left e]
      obtain ⟨g0, g1, g2, g3, g4⟩ := h4 j e
      refine ⟨?_, ?_, ?_, ?_, ?_⟩
      · rw [if_neg (by omega), if_neg (by omega), if_neg (by omega), if_neg (by omega), if_neg (by omega), g0]
      · rw [if_neg (by omega), if_neg (by omega), if_neg (by omega), if_neg (by omega), if_neg (by omega), g1]
      · rw [if_neg (by omega), if_neg (by omega), if_neg (by omega), if_neg (by omega), if_neg (by omega), g2]
      · rw [if_neg (by omega), if_neg (by omega), if_neg (by omega), if_neg (by omega), if_neg (by omega), g3]
      · rw [if_neg (by omega), if_neg (by omega), if_neg (by omega), if_neg (by omega), if_neg (by omega), g4]
    · have ej : j = k := by simp at hj; omega
      subst ej
      rw [List.getElem_append_right (by omega)]
      simp only [h2, Nat.sub_self, List.getElem_cons_zero]
      refine ⟨?_, ?_, ?_, ?_, ?_⟩
      · rw [if_neg (by omega), if_neg (by omega), if_neg (by omega), if_neg (by omega), if_pos trivial]
      · rw [if_neg (by omega), if_neg (by omega), if_neg (by omega), if_pos trivial]
      · rw [if_neg (by omega), if_neg (by omega), if_pos trivial]
      · rw [if_neg (by omega), if_pos trivial]
      · rw [if_pos trivial]
  · rw [List.mem_append, List.mem_singleton] at hu
    rcases hu with hu | rfl
    · exact (((((h5 u hu).set _ _).set _ _).set _ _).set _ _).set _ _
    · exact ((((hv.set _ _).set _ _).set _ _).set _ _).set _ _

/-- The row's next five cells are there. -/
def NextT (w : World) (k : Nat) (W : World) : Prop := ∃ v0 v1 v2 v3 v4, W.cell? ⟨w.heap.size, k * 5, none⟩ = some v0 ∧ W.cell? ⟨w.heap.size, k * 5 + 1, none⟩ = some v1 ∧ W.cell? ⟨w.heap.size, k * 5 + 2, none⟩ = some v2 ∧ W.cell? ⟨w.heap.size, k * 5 + 3, none⟩ = some v3 ∧ W.cell? ⟨w.heap.size, k * 5 + 4, none⟩ = some v4 ∧ W.frozen? ⟨w.heap.size, k * 5, none⟩ = false ∧ W.frozen? ⟨w.heap.size, k * 5 + 1, none⟩ = false ∧ W.frozen? ⟨w.heap.size, k * 5 + 2, none⟩ = false ∧ W.frozen? ⟨w.heap.size, k * 5 + 3, none⟩ = false ∧ W.frozen? ⟨w.heap.size, k * 5 + 4, none⟩ = false
theorem RowT.next {w : World} {n : Nat} {ks : List SV} {k : Nat} {W : World} (h : RowT w n ks k W) (hk : k < n) : NextT w k W := by
  obtain ⟨f, vs, h1, _⟩ := h
  exact ⟨_, _, _, _, _, h1.cell (i := k * 5) (by omega), h1.cell (i := k * 5 + 1) (by omega), h1.cell (i := k * 5 + 2) (by omega), h1.cell (i := k * 5 + 3) (by omega), h1.cell (i := k * 5 + 4) (by omega), h1.frozen _, h1.frozen _, h1.frozen _, h1.frozen _, h1.frozen _⟩

/-- The clones lie at p, each the same as its original. -/
def Made (p : Option Addr) (ks vs : List SV) (W : World) : Prop := vs.length = ks.length ∧ (∀ (j : Nat) (h1 : j < vs.length) (h2 : j < ks.length), SameS vs[j] ks[j]) ∧ StmtsAt W p vs ∧ ∃ n, ∀ v ∈ vs, Lies n v W
theorem Made.below {p : Option Addr} {ks vs : List SV} {W W' : World} (h : Made p ks vs W) (hb : Below W.heap.size W W') : Made p ks vs W' := by
  obtain ⟨h1, h2, h3, n, h4⟩ := h
  exact ⟨h1, h2, h3.below hb, n, fun v hv => (h4 v hv).below hb⟩
theorem RowT.made {w : World} {ks : List SV} {W : World} (h : RowT w ks.length ks ks.length W) : ∃ vs, Made (some ⟨w.heap.size, 0, none⟩) ks vs W := by
  obtain ⟨f, vs, h1, h2, h3, h4, h5, h6⟩ := h
  refine ⟨vs, h2, h3, fun _ => ⟨w.heap.size, 0, rfl, fun j hj => ?_⟩, w.heap.size, h5⟩
  obtain ⟨g0, g1, g2, g3, g4⟩ := h4 j hj
  rw [Nat.zero_add, ← g0, ← g1, ← g2, ← g3, ← g4]
  exact ⟨h1.cell (by omega), h1.cell (by omega), h1.cell (by omega), h1.cell (by omega), h1.cell (by omega)⟩

/-- A clone is as good as its original. -/
theorem stmtOk_of {f : Int → Option (List UInt8)} {w W : World} {n : Nat} {v x : SV} (hs : SameS v x) (hl : Lies n v W) (hx : StmtOk w f x) : StmtOk W f v := by
  have hc : ∀ c ∈ v.conds, ∃ d ∈ x.conds, d.c = c.c := fun c h => by
    have : c.c ∈ x.conds.map (·.c) := by rw [← hs.conds]; exact List.mem_map.2 ⟨c, h, rfl⟩
    obtain ⟨d, hd, e⟩ := List.mem_map.1 this
    exact ⟨d, hd, e⟩
  refine ⟨hl.acts, hl.res, hl.prins, fun h => ?_, hl.conds, hl.vals, fun c h => ?_, ?_, ?_, ?_, ?_, ?_, ?_⟩
  · rw [hs.prins]
    apply hx.nil
    have := hs.nil
    rw [h] at this
    simpa using this.symm
  · obtain ⟨d, hd, e⟩ := hc c h
    rw [← e]
    exact ⟨(hx.ok d hd).vals, (hx.ok d hd).size, (hx.ok d hd).key, (hx.ok d hd).look⟩
  · rw [hs.acts]; exact hx.la
  · rw [hs.res]; exact hx.lr
  · rw [hs.prins]; exact hx.lp
  · have := congrArg List.length hs.conds
    simp at this
    rw [this]; exact hx.lc
  · rw [hs.acts]; exact hx.za
  · rw [hs.res]; exact hx.zr
theorem Made.ok {f : Int → Option (List UInt8)} {p : Option Addr} {ks vs : List SV} {w W : World} (h : Made p ks vs W) (hk : ∀ s ∈ ks, StmtOk w f s) : ∀ s ∈ vs, StmtOk W f s := fun s hs => by
  obtain ⟨h1, h2, h3, n, h4⟩ := h
  obtain ⟨j, hj, rfl⟩ := List.getElem_of_mem hs
  exact stmtOk_of (h2 j hj (by omega)) (h4 _ hs) (hk _ (List.getElem_mem (by omega)))
end Go.Proofs.Qxb6613124aDoor
