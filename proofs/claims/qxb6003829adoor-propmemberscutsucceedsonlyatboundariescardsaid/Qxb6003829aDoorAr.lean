/-
  Seat b6003829aD: the walk of zza1Ar (6).
-/
import Derived.Test.Qxb6003829aDoorOk
import Derived.OneCell
namespace Go.Proofs.Qxb6003829aDoor
open Go.RowKit Go.Lib

theorem bcells_app (a b : List UInt8) : bcells (a ++ b) = bcells a ++ bcells b := by simp [bcells]

/-- An owned row of bytes, its value written out. -/
def Own (S : Nat) (W : World) (g cap : Nat) (l : List UInt8) : Prop := W.ownsRow S 5 1 (.slice (some ⟨g, 0, none⟩) l.length cap) l.length (bcells l)

theorem app_first {W : World} {S : Nat} (hS : W.heap[S]? = some (.cells magicC 5 (8, 9))) (x : List UInt8) (hx : 0 < x.length) (hx2 : x.length ≤ 8388608) (b o c : Nat) (hB : Bs W b o x) (ty : TypeId) :
    ∃ g cap W', (Builtin.append_ #[23, 23] ty #[.slice (some ⟨S, 0, none⟩) 8 8, .slice (some ⟨b, o, none⟩) x.length c]).run Tryd.prog W = .ok (.slice (some ⟨g, 0, none⟩) (magicB ++ x).length cap) W' ∧
      Own S W' g cap (magicB ++ x) ∧ W.grownBy W' none := by
  obtain ⟨i, hi, hz0, hz1, hz2⟩ := info_parts info5
  have hlt : S < W.heap.size := by
    rcases Nat.lt_or_ge S W.heap.size with h | h
    · exact h
    · rw [Array.getElem?_eq_none h] at hS; cases hS
  have h8 : magicB.length = 8 := rfl
  have hlen : (magicB ++ x).length = 8 + x.length := by rw [List.length_append, h8]
  have holds : ∀ j v, (bcells magicB)[j]? = some v → W.cell? ((⟨S, 0, none⟩ : Addr).add j) = some v := by
    intro j v hj
    rw [add_at, Nat.zero_add]
    have : W.cell? ⟨S, j, none⟩ = magicC[j]? := by simp [World.cell?, hS]
    rw [this, ← Array.getElem?_toList]
    exact hj
  have hr := run_append_grow (P := Tryd.prog) W 23 ty 5 i (.int .u8 0) Tryd.underlying23 hi hz0 ⟨S, 0, none⟩ 8 8 (bcells magicB) (by rw [hz1]; rfl) holds ⟨b, o, none⟩ x.length c (bcells x) (by rw [bcells_len, hz1, Nat.mul_one]) hB.news (by omega) (by omega)
    (growslice_fits (by omega) (by rw [hz2]; omega))
  have hge := grownCap_ge W (8 + x.length) 8 5
  have hcm : grownCap W (8 + x.length) 8 5 ≤ maxLen := grownCap_le_maxLen W (8 + x.length) 8 5 (by unfold maxLen; omega)
  rw [hlen]
  refine ⟨W.heap.size, _, _, hr, ?_, ⟨rfl, rfl, rfl, by simp, fun k hk _ => Below.heap_alloc W.drew _ k hk⟩⟩
  unfold Own
  refine ⟨by rw [bcells_len, Nat.mul_one], .inr ⟨W.heap.size, _, _, rfl, Nat.le_of_lt hlt, heap_alloc_new W.drew _, by rw [hlen]; exact hge, hcm, ?_, ?_⟩⟩
  · simp only [Array.size_append, List.size_toArray, size_zeroCells, bcells_len, h8]
    have : (Value.int .u8 0).cells.size = 1 := rfl
    rw [this]
    omega
  · have hl2 : (magicB ++ x).length * 1 = (bcells (magicB ++ x)).length := by rw [bcells_len, Nat.mul_one]
    rw [hl2, bcells_app]
    simp only [Array.toList_append, List.append_assoc]
    rw [← List.append_assoc]
    exact List.take_left

theorem app_own {W : World} {S g cap : Nat} {l : List UInt8} (h : Own S W g cap l) (hl : 0 < l.length) (hl2 : l.length ≤ 8388608) (x : List UInt8) (hx : x.length ≤ 8388608) (p : Option Addr) (c : Nat) (hp : Sl W p x) (hS : S ≤ W.heap.size) (ty : TypeId) :
    ∃ g' cap' W', (Builtin.append_ #[23, 23] ty #[.slice (some ⟨g, 0, none⟩) l.length cap, .slice p x.length c]).run Tryd.prog W = .ok (.slice (some ⟨g', 0, none⟩) (l ++ x).length cap') W' ∧
      Own S W' g' cap' (l ++ x) ∧ W.grownBy W' (some g) := by
  obtain ⟨i, hi, hz0, hz1, hz2⟩ := info_parts info5
  cases p with
  | none =>
    have hx0 : x = [] := by
      cases x with
      | nil => rfl
      | cons y r => obtain ⟨_, _, e, _⟩ := hp (by simp); cases e
    subst hx0
    have hcap : l.length ≤ cap := by
      rcases h.2 with ⟨e, _⟩ | ⟨g', cap', cur, e, _, _, hc, _⟩
      · cases e
      · cases e; exact hc
    refine ⟨g, cap, W, ?_, by rw [List.append_nil]; exact h, ⟨rfl, rfl, rfl, Nat.le_refl _, fun _ _ _ => rfl⟩⟩
    simp [Builtin.append_, run_underlying Tryd.underlying23, sizeOf, typeInfo, hi, Builtin.lenOf, Builtin.firstCells, hcap, storeCells]
  | some a =>
    have hnews : ∀ (j : Nat) (u : Value), (bcells x)[j]? = some u → W.cell? (a.add j) = some u := by
      intro j u hj
      have hjl : j < x.length := by have := (List.getElem?_eq_some_iff.1 hj).1; rwa [bcells_len] at this
      obtain ⟨b, o, e, hB⟩ := hp (by omega)
      cases e
      exact hB.news j u hj
    obtain ⟨v', w', hr, ho, hg, _⟩ := run_append_own (P := Tryd.prog) W S 23 ty 5 i (.int .u8 0) 1 1 Tryd.underlying23 hi hz0 hz1 hz2 rfl (by decide) _ l.length (bcells l) h a x.length c (bcells x) (by rw [bcells_len, Nat.mul_one]) hnews (bcells_one x) (by unfold maxLen; omega) (by omega) hS
    rw [← bcells_app, ← List.length_append] at ho
    obtain ⟨g', cap', rfl, _⟩ := own_bytes ho (by rw [List.length_append]; omega)
    exact ⟨g', cap', w', hr, ho, hg⟩

theorem own_ne {W : World} {S g cap H N : Nat} {l : List UInt8} {f : Nat → Value} (h : Own S W g cap l) (hrow : W.rowIs H 3 N f) : H ≠ g := by
  intro e
  subst e
  rcases h.2 with ⟨e, _⟩ | ⟨g', cap', cur, e, _, hg, _⟩
  · cases e
  · cases e
    obtain ⟨c, hc, _⟩ := hrow
    rw [hg] at hc
    simp at hc
theorem own_base {W : World} {S g cap : Nat} {l : List UInt8} (h : Own S W g cap l) : S ≤ g ∧ g < W.heap.size := h.lt g rfl

/-- The archive that is being built. -/
def DOwn (S : Nat) (W : World) (d : Value) (l : List UInt8) : Prop := (d = .slice (some ⟨S, 0, none⟩) 8 8 ∧ l = magicB ∧ W.heap[S]? = some (.cells magicC 5 (8, 9))) ∨ (0 < l.length ∧ ∃ g cap, d = .slice (some ⟨g, 0, none⟩) l.length cap ∧ Own S W g cap l)

theorem DOwn.below {S : Nat} {W W' : World} {d : Value} {l : List UInt8} (h : DOwn S W d l) (hS : S < W.heap.size) (hb : Below W.heap.size W W') : DOwn S W' d l := by
  rcases h with ⟨h1, h2, h3⟩ | ⟨h1, g, cap, h2, h3⟩
  · exact .inl ⟨h1, h2, (hb.block S hS).trans h3⟩
  · exact .inr ⟨h1, g, cap, h2, own_below h3 hb⟩

/-- The first append of a round. -/
theorem app_hdr {S : Nat} {W : World} {d : Value} {l : List UInt8} (h : DOwn S W d l) (hS : S < W.heap.size) (hl : l.length ≤ 4198216) {H N : Nat} {f : Nat → Value} (hrow : W.rowIs H 3 N f) (x : List UInt8) (hx : x.length = 60) (b c : Nat) (hB : Bs W b 0 x) (ty : TypeId) :
    ∃ g cap W', (Builtin.append_ #[23, 23] ty #[d, .slice (some ⟨b, 0, none⟩) 60 c]).run Tryd.prog W = .ok (.slice (some ⟨g, 0, none⟩) (l ++ x).length cap) W' ∧ Own S W' g cap (l ++ x) ∧ W'.rowIs H 3 N f ∧ (∀ w : World, w.heap.size = S → Below S w W → Below S w W') := by
  rcases h with ⟨rfl, rfl, h3⟩ | ⟨h1, g0, cap0, rfl, h3⟩
  · obtain ⟨g, cap, W', hr, ho, hg⟩ := app_first h3 x (by omega) (by omega) b 0 c hB ty
    rw [hx] at hr
    exact ⟨g, cap, W', hr, ho, hrow.of_block (hg.block H hrow.lt (by simp)), fun w hw hb => hb.grown hg (by omega) (fun k hk => by cases hk)⟩
  · obtain ⟨g, cap, W', hr, ho, hg⟩ := app_own h3 h1 (by omega) x (by omega) (some ⟨b, 0, none⟩) c (Sl.of hB) (by omega) ty
    rw [hx] at hr
    exact ⟨g, cap, W', hr, ho, hrow.of_block (hg.block H hrow.lt (fun e => own_ne h3 hrow (Option.some.inj e))), fun w hw hb => hb.grown hg (by omega) (fun k hk => by cases hk; exact (own_base h3).1)⟩

theorem own_setCell {S : Nat} {W : World} {g cap H N : Nat} {l : List UInt8} {f : Nat → Value} (h : Own S W g cap l) (hrow : W.rowIs H 3 N f) (k : Nat) (u : Value) : Own S (W.setCell ⟨H, k, none⟩ u) g cap l :=
  ownsRow_setCell_other h (fun e => own_ne h hrow (by simpa [Value.ownBlock] using e.symm)) u

theorem arTo_bound {ms : List Mem} (hok : ∀ (i : Nat) (h : i < ms.length), ms[i].Ok) : ∀ k, k ≤ ms.length → (arTo ms k).length ≤ 8 + k * 65597
  | 0, _ => by rw [arTo_zero]; exact Nat.le_refl _
  | k + 1, h => by
    have := arTo_bound hok k (by omega)
    rw [arTo_len_succ (by omega) (hok k (by omega))]
    have := (hok k (by omega)).2.2.1
    omega
theorem arTo_small {ms : List Mem} (hok : ∀ (i : Nat) (h : i < ms.length), ms[i].Ok) (h64 : ms.length ≤ 64) (k : Nat) (hk : k ≤ ms.length) : (arTo ms k).length ≤ 4198216 := by
  have := arTo_bound hok k hk
  omega

/-- Where the members' data start. -/
def Offs (f : Nat → Value) (ms : List Mem) (k : Nat) : Prop := ∀ j, j < k → f j = .int .i64 (((arTo ms j).length + 60 : Nat) : Int)

/-- The loop's relation. -/
def ALoop (w : World) (ms : List Mem) (d i : Value) (wr : World) : Prop :=
  ∃ (k : Nat) (f : Nat → Value), k ≤ ms.length ∧ i = .int .i64 k ∧ DOwn w.heap.size wr d (arTo ms k) ∧ wr.rowIs (w.heap.size + 1) 3 ms.length f ∧ Offs f ms k ∧ Below w.heap.size w wr

/-- What a round does. -/
def Round (w : World) (ms : List Mem) (b o k : Nat) (m : Mem) (pd : Option Addr) (cd : Nat) (d : Value) (hb : Nat) (W1 : World) : Prop :=
  ∃ (n1 g1 cap1 : Nat) (w1 : World) (n2 g2 cap2 : Nat) (w3 : World) (n3 g3 cap3 : Nat) (w4 : World) (u : Value),
    ((Builtin.append_ #[23, 23] 23 #[d, .slice (some ⟨hb, 0, none⟩) 60 60]).run Tryd.prog W1 = .ok (.slice (some ⟨g1, 0, none⟩) n1 cap1) w1) ∧
    w1.cell? ⟨w.heap.size + 1, k, none⟩ = some u ∧ w1.frozen? ⟨w.heap.size + 1, k, none⟩ = false ∧
    (w1.setCell ⟨w.heap.size + 1, k, none⟩ (.int .i64 n1)).cell? ⟨b, o + k * 5 + 1, none⟩ = some (.slice pd m.data.length cd) ∧
    ((Builtin.append_ #[23, 23] 23 #[.slice (some ⟨g1, 0, none⟩) n1 cap1, .slice pd m.data.length cd]).run Tryd.prog (w1.setCell ⟨w.heap.size + 1, k, none⟩ (.int .i64 n1)) = .ok (.slice (some ⟨g2, 0, none⟩) n2 cap2) w3) ∧
    w3.cell? ⟨b, o + k * 5 + 1, none⟩ = some (.slice pd m.data.length cd) ∧ w3.cell? ⟨b, o + k * 5 + 3, none⟩ = some (.int .u8 (m.pad.toNat : Int)) ∧
    ((Builtin.append_ #[23, 23] 23 #[.slice (some ⟨g2, 0, none⟩) n2 cap2, .slice (some ⟨w3.heap.size, 0, none⟩) 1 1]).run Tryd.prog (w3.alloc (.cells #[.int .u8 (m.pad.toNat : Int)] 5)) = .ok (.slice (some ⟨g3, 0, none⟩) n3 cap3) w4) ∧
    (m.data.length % 2 = 1 → ALoop w ms (.slice (some ⟨g3, 0, none⟩) n3 cap3) (.int .i64 ((k + 1 : Nat) : Int)) w4) ∧
    (m.data.length % 2 = 0 → ALoop w ms (.slice (some ⟨g2, 0, none⟩) n2 cap2) (.int .i64 ((k + 1 : Nat) : Int)) w3)

theorem slice_len {a : Option Addr} {n n' c : Nat} (h : n = n') : Value.slice a n c = .slice a n' c := by rw [h]

theorem ar_round {w wr W1 : World} {ms : List Mem} {b o k : Nat} {d : Value} {f : Nat → Value} (hok : ∀ (i : Nat) (h : i < ms.length), ms[i].Ok) (h64 : ms.length ≤ 64) (hk : k < ms.length) {pd : Option Addr} {cd : Nat}
    (c1 : w.cell? ⟨b, o + k * 5 + 1, none⟩ = some (.slice pd ms[k].data.length cd)) (c3 : w.cell? ⟨b, o + k * 5 + 3, none⟩ = some (.int .u8 (ms[k].pad.toNat : Int))) (hS : Sl w pd ms[k].data)
    (hD : DOwn w.heap.size wr d (arTo ms k)) (hrow : wr.rowIs (w.heap.size + 1) 3 ms.length f) (hoff : Offs f ms k) (hnx : Below w.heap.size w wr) (hb1 : Below wr.heap.size wr W1) {H : Nat} (hH : Bs W1 H 0 (hdrOf ms[k])) :
    Round w ms b o k ms[k] pd cd d H W1 := by
  have hlt : w.heap.size < wr.heap.size := by have := hrow.lt; omega
  have hsz1 := hb1.size
  have hdl : ms[k].data.length ≤ 65536 := (hok k hk).2.2.1
  have hal := arTo_small hok h64 k (by omega)
  have hrow1 : W1.rowIs (w.heap.size + 1) 3 ms.length f := hrow.of_block (hb1.block _ hrow.lt)
  have hbW1 : Below w.heap.size w W1 := hnx.trans (hb1.mono hnx.size)
  obtain ⟨g1, cap1, w1, hr1, ho1, hrow2, hB1⟩ := app_hdr (hD.below hlt hb1) (by omega) hal hrow1 (hdrOf ms[k]) (hdr_len (hok k hk)) H 60 hH 23
  have hbw1 := hB1 w rfl hbW1
  have hl1 : (arTo ms k ++ hdrOf ms[k]).length = (arTo ms k).length + 60 := by rw [List.length_append, hdr_len (hok k hk)]
  have hbw2 : Below w.heap.size w (w1.setCell ⟨w.heap.size + 1, k, none⟩ (.int .i64 (((arTo ms k ++ hdrOf ms[k]).length : Nat) : Int))) := hbw1.setCell (by simp) _
  have hrow3 := hrow2.set k (.int .i64 (((arTo ms k ++ hdrOf ms[k]).length : Nat) : Int))
  have ho2 := own_setCell ho1 hrow2 k (.int .i64 (((arTo ms k ++ hdrOf ms[k]).length : Nat) : Int))
  obtain ⟨g2, cap2, w3, hr2, ho3, hg3⟩ := app_own ho2 (by omega) (by omega) ms[k].data (by omega) pd cd (hS.below hbw2) hbw2.size 23
  have hrow4 := hrow3.of_block (hg3.block _ hrow3.lt (fun e => own_ne ho2 hrow3 (Option.some.inj e)))
  have hbw3 : Below w.heap.size w w3 := hbw2.grown hg3 hbw2.size (fun q hq => by cases hq; exact (own_base ho2).1)
  have hl2 : (arTo ms k ++ hdrOf ms[k] ++ ms[k].data).length = (arTo ms k).length + 60 + ms[k].data.length := by rw [List.length_append, hl1]
  have hoff' : Offs (fun j => if j = k then Value.int .i64 (((arTo ms k ++ hdrOf ms[k]).length : Nat) : Int) else f j) ms (k + 1) := by
    intro j hj
    by_cases e : j = k
    · subst e
      dsimp only
      rw [if_pos rfl, hl1]
    · dsimp only
      rw [if_neg e]
      exact hoff j (by omega)
  have hBp : Bs (w3.alloc (.cells #[.int .u8 (ms[k].pad.toNat : Int)] 5)) w3.heap.size 0 [ms[k].pad] := by
    intro j hj
    obtain rfl : j = 0 := by simpa using hj
    rw [World.cell?_alloc_mark]
    rfl
  have hal3 : Below w3.heap.size w3 (w3.alloc (.cells #[.int .u8 (ms[k].pad.toNat : Int)] 5)) := (Below.refl _ _).alloc (Nat.le_refl _) _
  have ho4 : Own w.heap.size (w3.alloc (.cells #[.int .u8 (ms[k].pad.toNat : Int)] 5)) g2 cap2 (arTo ms k ++ hdrOf ms[k] ++ ms[k].data) := own_below ho3 hal3
  have hrow5 := hrow4.of_block (hal3.block _ hrow4.lt)
  obtain ⟨g3, cap3, w4, hr3, ho5, hg5⟩ := app_own ho4 (by omega) (by omega) [ms[k].pad] (by simp) (some ⟨w3.heap.size, 0, none⟩) 1 (Sl.of hBp) (by have := hbw3.size; have := hal3.size; omega) 23
  have hrow6 := hrow5.of_block (hg5.block _ hrow5.lt (fun e => own_ne ho4 hrow5 (Option.some.inj e)))
  have hbw4 : Below w.heap.size w w4 := (hbw3.trans (hal3.mono hbw3.size)).grown hg5 (by have := hbw3.size; have := hal3.size; omega) (fun q hq => by cases hq; exact (own_base ho4).1)
  refine ⟨_, g1, cap1, w1, _, g2, cap2, w3, _, g3, cap3, w4, _, hr1, hrow2.cell hk, hrow2.frozen k, cell_below hbw2 c1, hr2, cell_below hbw3 c1, cell_below hbw3 c3, hr3, fun hodd => ?_, fun heven => ?_⟩
  · refine ⟨k + 1, _, by omega, rfl, .inr ⟨?_, g3, cap3, ?_, ?_⟩, hrow6, hoff', hbw4⟩
    · rw [arTo_succ hk, List.length_append, body_len (hok k hk)]; omega
    · apply slice_len
      rw [List.length_append, hl2, arTo_succ hk, List.length_append, body_len (hok k hk), hodd]
      simp
      omega
    · have e : arTo ms (k + 1) = arTo ms k ++ hdrOf ms[k] ++ ms[k].data ++ [ms[k].pad] := by
        rw [arTo_succ hk]
        unfold body padOf
        rw [if_pos hodd]
        simp
      rw [e]
      exact ho5
  · refine ⟨k + 1, _, by omega, rfl, .inr ⟨?_, g2, cap2, ?_, ?_⟩, hrow4, hoff', hbw3⟩
    · rw [arTo_succ hk, List.length_append, body_len (hok k hk)]; omega
    · apply slice_len
      rw [hl2, arTo_succ hk, List.length_append, body_len (hok k hk), heven]
      omega
    · have e : arTo ms (k + 1) = arTo ms k ++ hdrOf ms[k] ++ ms[k].data := by
        rw [arTo_succ hk]
        unfold body padOf
        rw [if_neg (by omega)]
        simp
      rw [e]
      exact ho3

/-- 'append' where its run is known by an equation. -/
theorem wp_app (w : World) {o : Oper} {a : Act} {K : Act → World → Prop} {Q : Exit → Act → World → Prop} (d s : Operand) (t : TypeId)
    (ho : o.op = .call { callee := .builtin .append, args := #[d, s], argTypes := #[t, t] }) (v u : Value) (hd : a.eval d = v) (hs : a.eval s = u) {v' : Value} {w' : World}
    (hr : (Builtin.append_ #[t, t] o.type #[v, u]).run Tryd.prog w = .ok v' w') (h : K (a.put o.dst v') w') : o.wp Tryd.prog a w K Q := by
  unfold Oper.wp execOp
  simp only [ho, resolve, invoke, builtin, Sem.run_bind, Sem.run_pure, Result.andThen_ok, List.map_toArray, List.map_cons, List.map_nil, hd, hs, hr]
  exact h
theorem wpList_app (w : World) {ops : Array Oper} {rest : List Oper} {o : Oper} {a : Act} {Q : Exit → Act → World → Prop} (hgd : o.guard = none) (d s : Operand) (t : TypeId)
    (ho : o.op = .call { callee := .builtin .append, args := #[d, s], argTypes := #[t, t] }) (v u : Value) (hd : a.eval d = v) (hs : a.eval s = u) {v' : Value} {w' : World}
    (hr : (Builtin.append_ #[t, t] o.type #[v, u]).run Tryd.prog w = .ok v' w') (h : wpList Tryd.prog ops Q rest (a.put o.dst v') w') : wpList Tryd.prog ops Q (o :: rest) a w :=
  wpList_plain hgd fun _ hK => wp_app w d s t ho v u hd hs hr (hK _ _ h)

theorem make_ints (n : Nat) (h : n ≤ 1048576) (w : World) :
    (Instr.makeSlice 25 (.int .i64 n) (.int .i64 n)).run Tryd.prog w = .ok (.slice (some ⟨w.heap.size, 0, none⟩) n n) (w.alloc (.cells (madeCells #[.int .i64 0] n) 3)) := by
  have info3 : (Tryd.prog.info? 3).map (fun i => (i.zero, i.size, i.bytes)) = some (some (.int .i64 0), 1, 8) := by kernel_rfl
  obtain ⟨i, hi, hz0, hz1, hz2⟩ := info_parts info3
  have := run_make (P := Tryd.prog) w 25 3 i _ Tryd.underlying25 hi hz0 .i64 .i64 n n (by omega) (Int.le_refl _) (by rw [hz2]; omega) (by omega)
  rw [hz1] at this
  simp only [Int.toNat_natCast, Nat.mul_one] at this
  exact this

/-- What zza1Ar answers. -/
def ArPost (ms : List Mem) (w : World) (e : Ending) (w' : World) : Prop :=
  (∃ (D : Value) (f : Nat → Value), e = .returned (.tuple #[D, .slice (some ⟨w.heap.size + 1, 0, none⟩) ms.length ms.length]) ∧ DOwn w.heap.size w' D (ar ms) ∧ w'.rowIs (w.heap.size + 1) 3 ms.length f ∧ Offs f ms ms.length) ∧ Below w.heap.size w w'

theorem aloop_start (w : World) (ms : List Mem) : ALoop w ms (.slice (some ⟨w.heap.size, 0, none⟩) 8 8) (.int .i64 0) ((w.alloc (.cells magicC 5 (8, 9))).alloc (.cells (madeCells #[.int .i64 0] ms.length) 3)) := by
  have hs : (w.alloc (.cells magicC 5 (8, 9))).heap.size = w.heap.size + 1 := by simp
  refine ⟨0, fun _ => .int .i64 0, Nat.zero_le _, rfl, .inl ⟨rfl, arTo_zero ms, ?_⟩, ?_, fun j hj => by omega, ((Below.refl _ _).alloc (Nat.le_refl _) _).alloc (by omega) _⟩
  · rw [Below.heap_alloc _ _ _ (by omega)]
    show (w.heap.push _)[w.heap.size]? = _
    simp
  · have := World.rowIs_made (w.alloc (.cells magicC 5 (8, 9))) (.int .i64 0) ms.length 3
    rwa [hs] at this

set_option maxHeartbeats 4000000 in
set_option maxRecDepth 100000 in
theorem arWalk (ms : List Mem) (a : Option Addr) (b o cp : Nat) (w : World) (ha : 0 < ms.length → a = some ⟨b, o, none⟩) (hC : Hid (MCells w b o ms)) (hok : Hid (∀ (i : Nat) (h : i < ms.length), ms[i].Ok)) (h64 : ms.length ≤ 64) :
    Calls Tryd.prog 6 #[.slice a ms.length cp] w (ArPost ms w) := by
  have hcv := conv_magic w
  have hmk := make_ints ms.length (by omega) (w.alloc (.cells magicC 5 (8, 9)))
  have hs : (w.alloc (.cells magicC 5 (8, 9))).heap.size = w.heap.size + 1 := by simp
  rw [hs] at hmk
  clear hs
  have hst : Hid _ := aloop_start w ms
  go_enter Tryd.func6, Tryd.ntmps6
  go_wp2
  go_loopw [4, 14] (fun d i wr => ALoop w ms d i wr) (fun _ i _ => ms.length - (intOf i).toNat)
  case atStart => exact hst.out
  case round =>
    clear hcv hmk hst
    obtain ⟨k, f, hk, rfl, hD, hrow, hoff, hnx⟩ := hrel
    by_cases hlt : k < ms.length
    · obtain ⟨pd, cd, pf, cf, c0, c1, c2, c3, c4, hSd, hSf, hcd, hcf⟩ := hC.out k hlt
      obtain rfl := ha (by omega)
      have d0 := cell_below hnx c0
      have d1 := cell_below hnx c1
      have d2 := cell_below hnx c2
      have d3 := cell_below hnx c3
      have d4 := cell_below hnx c4
      have HR : Hid (∀ (H : Nat) (W1 : World), Below wr.heap.size wr W1 → Bs W1 H 0 (hdrOf ms[k]) → Round w ms b o k ms[k] pd cd _ H W1) := fun H W1 hb hB => ar_round hok.out h64 hlt c1 c3 hSd hD hrow hoff hnx hb hB
      have hH := header ms[k] pd pf cd cf wr (hok.out k hlt) (hSf.below hnx) hcf
      clear c0 c1 c2 c3 c4 hSd hSf hcd hcf hD hrow hoff
      generalize ms[k] = m at *
      go_wp2_with (first
        | (go_at_call 11; go_fit hH; rintro e W1 ⟨⟨H, rfl, hH1, hHB⟩, hb1⟩; obtain ⟨n1, g1, cap1, w1, n2, g2, cap2, w3, n3, g3, cap3, w4, u, r1, r2, r3, r4, r5, r6, r7, r8, r9, r10⟩ := HR.out H W1 hb1 hHB; have R9 : Hid _ := r9; have R10 : Hid _ := r10; have R1 : Hid _ := r1; have R5 : Hid _ := r5; have R8 : Hid _ := r8; clear r1 r5 r8 r9 r10 hHB hH)
        | (at_builtin; refine wpList_app _ rfl (.tmp 17) (.tmp 22) 23 rfl _ _ rfl rfl R1.out ?_)
        | (at_builtin; refine wpList_app _ rfl (.tmp 29) (.tmp 34) 23 rfl _ _ rfl rfl R5.out ?_)
        | (at_builtin; refine wpList_app _ rfl (.tmp 44) (.tmp 50) 23 rfl _ _ rfl rfl R8.out ?_))
      · have hodd : ((m.data.length : Int) % 2 == 1) = true := by assumption
        have := R9.out (by have := eq_of_beq hodd; omega)
        exact ⟨by rwa [Int.natCast_add, Int.natCast_one] at this, by simp only [intOf]; omega⟩
      · have heven : ((m.data.length : Int) % 2 == 1) = false := by assumption
        have := R10.out (by have := ne_of_beq_false heven; omega)
        exact ⟨by rwa [Int.natCast_add, Int.natCast_one] at this, by simp only [intOf]; omega⟩
    · obtain rfl : k = ms.length := by omega
      have HD : Hid _ := hD
      clear hD
      go_wp2
      go_ret2
      exact ⟨⟨_, f, rfl, HD.out, hrow, hoff⟩, hnx⟩

/-- The archive's value, its bytes and where the data start. -/
theorem ar_shape {ms : List Mem} {w w' : World} {D : Value} (h : DOwn w.heap.size w' D (ar ms)) (hlt : w.heap.size + 1 < w'.heap.size) : ∃ g cap, D = .slice (some ⟨g, 0, none⟩) (ar ms).length cap ∧ (ar ms).length ≤ cap ∧ w.heap.size ≤ g ∧ g < w'.heap.size ∧ Bs w' g 0 (ar ms) := by
  rcases h with ⟨rfl, he, hS⟩ | ⟨h0, g, cap, rfl, ho⟩
  · have h8 : (ar ms).length = 8 := by rw [he]; rfl
    refine ⟨w.heap.size, 8, by rw [h8], by omega, Nat.le_refl _, by omega, ?_⟩
    rw [he]
    intro j hj
    have : w'.cell? ⟨w.heap.size, 0 + j, none⟩ = magicC[j]? := by rw [Nat.zero_add]; simp [World.cell?, hS]
    rw [this, ← Array.getElem?_toList]
    have hm : magicC.toList = bcells magicB := rfl
    rw [hm]
    simp [bcells, hj]
  · obtain ⟨g', cap', e, h1, h2, h3, h4⟩ := own_bytes ho h0
    cases e
    exact ⟨g, cap, rfl, h1, h2, h3, h4⟩
end Go.Proofs.Qxb6003829aDoor
