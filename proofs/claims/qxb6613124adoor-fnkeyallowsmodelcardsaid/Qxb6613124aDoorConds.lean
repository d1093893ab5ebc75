/-
  THE WALK of zzConditions (8).
-/
import Derived.Test.Qxb6613124aDoorClone
namespace Go.Proofs.Qxb6613124aDoor
open Go.RowKit

theorem info63 : (Tryd.prog.info? 63).map (fun i => (i.zero, i.size, i.bytes)) = some (some (.agg #[.bool false, .bool false, .int .i64 0, .slice none 0 0]), 4, 40) := by kernel_rfl
theorem make_conds (n : Nat) (h : n ≤ 1048576) (w : World) :
    (Instr.makeSlice 34 (.int .i64 n) (.int .i64 n)).run Tryd.prog w = .ok (.slice (some ⟨w.heap.size, 0, none⟩) n n) (w.alloc (.cells (madeCells #[.bool false, .bool false, .int .i64 0, .slice none 0 0] (n * 4)) 63)) := by
  obtain ⟨i, hi, hz0, hz1, hz2⟩ := info_parts info63
  have := run_make (P := Tryd.prog) w 34 63 i _ Tryd.underlying34 hi hz0 .i64 .i64 n n (by omega) (Int.le_refl _) (by rw [hz2]; omega) (by omega)
  rw [hz1] at this
  simp only [Int.toNat_natCast] at this
  exact this
theorem made_row (w : World) (c : Array Value) (n : Nat) (ty : TypeId) : ∃ f, (w.alloc (.cells (madeCells c n) ty)).rowIs w.heap.size ty n f := by
  have := World.rowIs_alloc w (madeCells c n) ty (fun j => (madeCells c n).getD j undef) (fun j hj => by simp [Array.getD, hj])
  rw [size_madeCells] at this
  exact ⟨_, this⟩

/-- The row's first conditions are vs, clones of cs's. -/
def RowC (w : World) (n : Nat) (cs : List CV) (k : Nat) (W : World) : Prop := ∃ (f : Nat → Value) (vs : List CV), W.rowIs w.heap.size 63 (n * 4) f ∧ vs.length = k ∧ vs.map (·.c) = (cs.take k).map (·.c) ∧ (∀ (j : Nat) (h : j < vs.length), f (j * 4) = .bool vs[j].c.neg ∧ f (j * 4 + 1) = .bool vs[j].c.ic ∧ f (j * 4 + 2) = .int .i64 vs[j].c.pcr ∧ f (j * 4 + 3) = .slice vs[j].p vs[j].c.vals.length vs[j].cp) ∧ (∀ v ∈ vs, StrsAt W v.p v.c.vals ∧ ∀ a, v.p = some a → w.heap.size < a.block) ∧ Below w.heap.size w W

theorem RowC.below {w : World} {n : Nat} {cs : List CV} {k : Nat} {W W' : World} (h : RowC w n cs k W) (hb : Below W.heap.size W W') : RowC w n cs k W' := by
  obtain ⟨f, vs, h1, h2, h3, h4, h5, h6⟩ := h
  exact ⟨f, vs, h1.of_block (hb.block _ h1.lt), h2, h3, h4, fun v hv => ⟨(h5 v hv).1.below hb, (h5 v hv).2⟩, h6.trans (hb.mono h6.size)⟩

theorem strs_set {n : Nat} {W : World} {p : Option Addr} {ss : List ByteArray} (h : StrsAt W p ss) (i : Nat) (v : Value) (hne : ∀ a, p = some a → n < a.block) : StrsAt (W.setCell ⟨n, i, none⟩ v) p ss := fun h0 => by
  obtain ⟨b, o, e, hc⟩ := h h0
  refine ⟨b, o, e, fun j hj => ?_⟩
  have hb : b ≠ n := by have := hne _ e; simp at this; omega
  have e2 := Go.Deep.blk_setCell_other W ⟨n, i, none⟩ v b hb
  have := hc j hj
  simpa only [World.cell?, e2] using this

/-- Storing the next clone. -/
theorem RowC.step {w : World} {n : Nat} {cs : List CV} {k : Nat} {W : World} (h : RowC w n cs k W) (hk : k < cs.length) {x : CV} (hx : cs[k] = x) {q : Option Addr} {cq : Nat} (hq : StrsAt W q x.c.vals) (hqb : ∀ a, q = some a → w.heap.size < a.block) :
    RowC w n cs (k + 1) ((((W.setCell ⟨w.heap.size, k * 4, none⟩ (.bool x.c.neg)).setCell ⟨w.heap.size, k * 4 + 1, none⟩ (.bool x.c.ic)).setCell ⟨w.heap.size, k * 4 + 2, none⟩ (.int .i64 x.c.pcr)).setCell ⟨w.heap.size, k * 4 + 3, none⟩ (.slice q x.c.vals.length cq)) := by
  obtain ⟨f, vs, h1, h2, h3, h4, h5, h6⟩ := h
  refine ⟨_, vs ++ [⟨x.c, q, cq⟩], (((h1.set (k * 4) _).set (k * 4 + 1) _).set (k * 4 + 2) _).set (k * 4 + 3) _, by simp [h2], ?_, fun j hj => ?_, fun v hv => ?_, ((((h6.setCell (p := ⟨w.heap.size, k * 4, none⟩) (Nat.le_refl _) _).setCell (p := ⟨w.heap.size, k * 4 + 1, none⟩) (Nat.le_refl _) _).setCell (p := ⟨w.heap.size, k * 4 + 2, none⟩) (Nat.le_refl _) _).setCell (p := ⟨w.heap.size, k * 4 + 3, none⟩) (Nat.le_refl _) _)⟩
  · rw [List.map_append, h3, List.take_succ_eq_append_getElem hk, List.map_append, hx]
    rfl
  · by_cases e : j < vs.length
    · rw [List.getElem_append_left e]
      obtain ⟨g0, g1, g2, g3⟩ := h4 j e
      refine ⟨?_, ?_, ?_, ?_⟩
      · rw [if_neg (by omega), if_neg (by omega), if_neg (by omega), if_neg (by omega), g0]
      · rw [if_neg (by omega), if_neg (by omega), if_neg (by omega), if_neg (by omega), g1]
      · rw [if_neg (by omega), if_neg (by omega), if_neg (by omega), if_neg (by omega), g2]
      · rw [if_neg (by omega), if_neg (by omega), if_neg (by omega), if_neg (by omega), g3]
    · have ej : j = k := by simp at hj; omega
      subst ej
      rw [List.getElem_append_right (by omega)]
      simp only [h2, Nat.sub_self, List.getElem_cons_zero]
      refine ⟨?_, ?_, ?_, ?_⟩
      · rw [if_neg (by omega), if_neg (by omega), if_neg (by omega), if_pos trivial]
      · rw [if_neg (by omega), if_neg (by omega), if_pos trivial]
      · rw [if_neg (by omega), if_pos trivial]
      · rw [if_pos trivial]
  · rw [List.mem_append, List.mem_singleton] at hv
    rcases hv with hv | rfl
    · obtain ⟨g, gb⟩ := h5 v hv
      exact ⟨strs_set (strs_set (strs_set (strs_set g _ _ gb) _ _ gb) _ _ gb) _ _ gb, gb⟩
    · exact ⟨strs_set (strs_set (strs_set (strs_set hq _ _ hqb) _ _ hqb) _ _ hqb) _ _ hqb, hqb⟩

/-- The clone of the conditions. -/
def CondsP (w : World) (cs : List CV) (e : Ending) (w' : World) : Prop := ∃ (q : Option Addr) (cq : Nat) (vs : List CV), e = .returned (.slice q vs.length cq) ∧ vs.length = cs.length ∧ vs.map (·.c) = cs.map (·.c) ∧ CondsAt w' q vs ∧ (∀ v ∈ vs, StrsAt w' v.p v.c.vals ∧ ∀ a, v.p = some a → w.heap.size ≤ a.block) ∧ (∀ a, q = some a → w.heap.size ≤ a.block) ∧ Below w.heap.size w w'

/-- The row's next four cells are there. -/
def NextC (w : World) (k : Nat) (W : World) : Prop := ∃ v0 v1 v2 v3, W.cell? ⟨w.heap.size, k * 4, none⟩ = some v0 ∧ W.cell? ⟨w.heap.size, k * 4 + 1, none⟩ = some v1 ∧ W.cell? ⟨w.heap.size, k * 4 + 2, none⟩ = some v2 ∧ W.cell? ⟨w.heap.size, k * 4 + 3, none⟩ = some v3 ∧ W.frozen? ⟨w.heap.size, k * 4, none⟩ = false ∧ W.frozen? ⟨w.heap.size, k * 4 + 1, none⟩ = false ∧ W.frozen? ⟨w.heap.size, k * 4 + 2, none⟩ = false ∧ W.frozen? ⟨w.heap.size, k * 4 + 3, none⟩ = false
theorem RowC.next {w : World} {n : Nat} {cs : List CV} {k : Nat} {W : World} (h : RowC w n cs k W) (hk : k < n) : NextC w k W := by
  obtain ⟨f, vs, h1, _⟩ := h
  exact ⟨_, _, _, _, h1.cell (i := k * 4) (by omega), h1.cell (i := k * 4 + 1) (by omega), h1.cell (i := k * 4 + 2) (by omega), h1.cell (i := k * 4 + 3) (by omega), h1.frozen _, h1.frozen _, h1.frozen _, h1.frozen _⟩

def Src (b o k : Nat) (x : CV) (W : World) : Prop := W.cell? ⟨b, o + k * 4, none⟩ = some (.bool x.c.neg) ∧ W.cell? ⟨b, o + k * 4 + 1, none⟩ = some (.bool x.c.ic) ∧ W.cell? ⟨b, o + k * 4 + 2, none⟩ = some (.int .i64 x.c.pcr) ∧ W.cell? ⟨b, o + k * 4 + 3, none⟩ = some (.slice x.p x.c.vals.length x.cp)
theorem Src.below {b o k : Nat} {x : CV} {W W' : World} (h : Src b o k x W) (hb : Below W.heap.size W W') : Src b o k x W' := by
  have u : ∀ {a : Addr} {v : Value}, W.cell? a = some v → W'.cell? a = some v := fun {a v} hx => (hb.cell (block_lt_of_cell hx)).trans hx
  exact ⟨u h.1, u h.2.1, u h.2.2.1, u h.2.2.2⟩

set_option maxHeartbeats 1600000 in
set_option maxRecDepth 100000 in
theorem conds_any (cs : List CV) (p : Option Addr) (cp : Nat) (w : World) (hl : cs.length ≤ 1048576) (hn : p = none → cs = []) (hC : Hid (CondsAt w p cs)) (hV : Hid (∀ v ∈ cs, StrsAt w v.p v.c.vals ∧ v.c.vals.length ≤ 1048576 ∧ (v.p = none → v.c.vals = []))) :
    Calls Tryd.prog 8 #[.slice p cs.length cp] w fun e w' => CondsP w cs e w' := by
  have hnil := fun (a : Option Addr) (l c : Nat) (w : World) => run_eql_slice_nil (P := Tryd.prog) w 38 66 a l c Tryd.underlying38
  cases p with
  | none =>
    obtain rfl := hn rfl
    go_enter Tryd.func8, Tryd.ntmps8
    go_wp2
    go_ret
    exact ⟨none, 0, [], rfl, rfl, rfl, fun h => absurd h (by simp), fun v hv => absurd hv (by simp), (fun a h => by cases h), Below.refl _ _⟩
  | some a =>
    clear hn
    have hmk := fun w => make_conds cs.length hl w
    go_enter Tryd.func8, Tryd.ntmps8
    go_wp2
    go_loopw [4] (fun sj wr => ∃ k : Nat, k ≤ cs.length ∧ sj = .int .i64 k ∧ Hid (RowC w cs.length cs k wr)) (fun j _ => cs.length - (intOf j).toNat)
    case atStart =>
      obtain ⟨f, hf⟩ := made_row w #[.bool false, .bool false, .int .i64 0, .slice none 0 0] (cs.length * 4) 63
      exact ⟨0, Nat.zero_le _, rfl, hid ⟨f, [], hf, rfl, rfl, fun j h => by simp at h, fun v h => by simp at h, (Below.refl _ _).alloc (Nat.le_refl _) _⟩⟩
    case round =>
      obtain ⟨k, hk, rfl, hrel⟩ := hrel
      clear hmk
      by_cases hlt : k < cs.length
      · obtain ⟨b, o, hae, hc⟩ := hC.out (by omega)
        obtain rfl := Option.some.inj hae
        clear hae
        have hBr : Below w.heap.size w wr := by obtain ⟨_, _, _, _, _, _, _, h⟩ := hrel.out; exact h
        obtain ⟨x, hx⟩ : ∃ x, cs[k] = x := ⟨_, rfl⟩
        have HX := hid hx
        have hsrc0 : Src b o k x w := by rw [← hx]; exact hc k hlt
        have hsrc := hid (hsrc0.below hBr)
        have hvx := hid (hV.out cs[k] (List.getElem_mem hlt))
        rw [hx] at hvx
        have hrow := hrel.out
        obtain ⟨s0, s1, s2, s3⟩ := hsrc.out
        have hwlt : w.heap.size < wr.heap.size := by obtain ⟨f, vs, h1, _⟩ := hrow; exact h1.lt
        have C7 : Hid (Calls Tryd.prog 7 #[.slice x.p x.c.vals.length x.cp] wr.drew fun e W => ∃ q cq, e = .returned (.slice q x.c.vals.length cq) ∧ Hid (StrsAt W q x.c.vals ∧ (∀ a, q = some a → w.heap.size < a.block) ∧ RowC w cs.length cs k W) ∧ Src b o k x W) := by
          have hd : Below wr.heap.size wr wr.drew := (Below.refl _ _).drew
          refine hid ((clone_any x.c.vals x.p x.cp wr.drew hvx.out.2.1 hvx.out.2.2 (hid (hvx.out.1.below (hBr.trans (hd.mono hBr.size))))).mono ?_)
          rintro e W ⟨q, cq, rfl, h1, h2, h3, h4⟩
          exact ⟨q, cq, rfl, hid ⟨h1, fun a ha => Nat.lt_of_lt_of_le hwlt (h3 a ha), (hrow.below hd).below h4⟩, (hsrc.out.below hd).below h4⟩
        have hkz : (k : Int) < (cs.length : Int) := by omega
        have hbw : w.heap.size ≠ b := fun e => by have := block_lt_of_cell hsrc0.1; simp at this; omega
        have hbw' : b ≠ w.heap.size := fun e => hbw e.symm
        clear hc hx hsrc0
        go_wp2
        go_region_held (fun W => W.cell? ⟨b, o + k * 4, none⟩ = some (.bool x.c.neg) ∧ W.cell? ⟨b, o + k * 4 + 1, none⟩ = some (.bool x.c.ic) ∧ W.cell? ⟨b, o + k * 4 + 2, none⟩ = some (.int .i64 x.c.pcr) ∧ W.cell? ⟨b, o + k * 4 + 3, none⟩ = some (.slice x.p x.c.vals.length x.cp)) (go_keep) ((first | (go_at_call 7; refine C7.out.mono ?_; rintro e w5 ⟨q, cq, rfl, hq5, t0, t1, t2, t3⟩) | (go_at_call 20; refine (zzcond _ _ _ q _ cq _).mono ?_; rintro e w6 ⟨rfl, hb6⟩; obtain ⟨u0, u1, u2, u3⟩ := Src.below (b := b) (o := o) (k := k) (x := x) ⟨t0, t1, t2, t3⟩ hb6; have hR6 := hid (hq5.out.2.2.below hb6); obtain ⟨v0, v1, v2, v3, e0, e1, e2, e3, z0, z1, z2, z3⟩ := hR6.out.next hlt)))
        go_wp2
        refine ⟨⟨k + 1, by omega, by go_num, hid ?_⟩, by simp [intOf]; omega⟩
        refine RowC.step hR6.out hlt HX.out (hq5.out.1.below hb6) hq5.out.2.1
      · obtain rfl : k = cs.length := by omega
        have HR := hid hrel.out
        clear hrel
        go_wp2
        go_ret
        obtain ⟨f, vs, h1, h2, h3, h4, h5, h6⟩ := HR.out
        rw [List.take_length] at h3
        refine ⟨some ⟨w.heap.size, 0, none⟩, cs.length, vs, by rw [h2]; rfl, h2, h3, fun _ => ⟨w.heap.size, 0, rfl, fun j hj => ?_⟩, fun v hv => ⟨(h5 v hv).1, fun a ha => Nat.le_of_lt ((h5 v hv).2 a ha)⟩, (fun a h => by cases h; exact Nat.le_refl _), h6⟩
        obtain ⟨g0, g1, g2, g3⟩ := h4 j hj
        rw [Nat.zero_add, ← g0, ← g1, ← g2, ← g3]
        exact ⟨h1.cell (by omega), h1.cell (by omega), h1.cell (by omega), h1.cell (by omega)⟩
end Go.Proofs.Qxb6613124aDoor
