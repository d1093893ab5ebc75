/-
  THE CALLS inside the law's two loops, in whatever order they come up.
-/
import Derived.Test.Qxb6613124aDoorRowt
import Derived.Test.Qxb6613124aDoorAllsize
namespace Go.Proofs.Qxb6613124aDoor
open Go.RowKit

/-- F holds from W on. -/
def At (F : World → Prop) (W : World) : Prop := ∀ W', Below W.heap.size W W' → F W'
theorem At.below {F : World → Prop} {W W' : World} (h : At F W) (hb : Below W.heap.size W W') : At F W' := fun V hV => h V (hb.trans (hV.mono hb.size))
theorem At.now {F : World → Prop} {W : World} (h : At F W) : F W := h W (Below.refl _ _)

def LiesS (n : Nat) (p : Option Addr) (ss : List ByteArray) (q : Option Addr) (V : World) : Prop := StrsAt V q ss ∧ q.isNone = p.isNone ∧ ∀ a, q = some a → n < a.block
def LiesC (n : Nat) (cs : List CV) (q : Option Addr) (vs : List CV) (V : World) : Prop := vs.map (·.c) = cs.map (·.c) ∧ CondsAt V q vs ∧ (∀ v ∈ vs, StrsAt V v.p v.c.vals ∧ ∀ a, v.p = some a → n < a.block) ∧ ∀ a, q = some a → n < a.block
def SrcS (w : World) (p : Option Addr) (ss : List ByteArray) : Prop := StrsAt w p ss ∧ ss.length ≤ 1048576 ∧ (p = none → ss = [])
def SrcC (w : World) (p : Option Addr) (cs : List CV) : Prop := CondsAt w p cs ∧ cs.length ≤ 1048576 ∧ (p = none → cs = []) ∧ ∀ v ∈ cs, SrcS w v.p v.c.vals
theorem SrcS.below {w w' : World} {p : Option Addr} {ss : List ByteArray} (h : SrcS w p ss) (hb : Below w.heap.size w w') : SrcS w' p ss := ⟨h.1.below hb, h.2⟩
theorem SrcC.below {w w' : World} {p : Option Addr} {cs : List CV} (h : SrcC w p cs) (hb : Below w.heap.size w w') : SrcC w' p cs := ⟨h.1.below hb, h.2.1, h.2.2.1, fun v hv => (h.2.2.2 v hv).below hb⟩

def Src5 (b o k : Nat) (x : SV) (W : World) : Prop := W.cell? ⟨b, o + k * 5, none⟩ = some (.bool x.deny) ∧ W.cell? ⟨b, o + k * 5 + 1, none⟩ = some (.slice x.pa x.acts.length x.ca) ∧ W.cell? ⟨b, o + k * 5 + 2, none⟩ = some (.slice x.pr x.res.length x.cr) ∧ W.cell? ⟨b, o + k * 5 + 3, none⟩ = some (.slice x.pp x.prins.length x.cpp) ∧ W.cell? ⟨b, o + k * 5 + 4, none⟩ = some (.slice x.pc x.conds.length x.cc)
theorem Src5.below {b o k : Nat} {x : SV} {W W' : World} (h : Src5 b o k x W) (hb : Below W.heap.size W W') : Src5 b o k x W' := by
  have u : ∀ {a : Addr} {v : Value}, W.cell? a = some v → W'.cell? a = some v := fun {a v} hx => (hb.cell (block_lt_of_cell hx)).trans hx
  exact ⟨u h.1, u h.2.1, u h.2.2.1, u h.2.2.2.1, u h.2.2.2.2⟩
def Src4 (b o k : Nat) (x : SV) (W : World) : Prop := W.cell? ⟨b, o + k * 4, none⟩ = some (.bool x.deny) ∧ W.cell? ⟨b, o + k * 4 + 1, none⟩ = some (.slice x.pa x.acts.length x.ca) ∧ W.cell? ⟨b, o + k * 4 + 2, none⟩ = some (.slice x.pr x.res.length x.cr) ∧ W.cell? ⟨b, o + k * 4 + 3, none⟩ = some (.slice x.pc x.conds.length x.cc)
theorem Src4.below {b o k : Nat} {x : SV} {W W' : World} (h : Src4 b o k x W) (hb : Below W.heap.size W W') : Src4 b o k x W' := by
  have u : ∀ {a : Addr} {v : Value}, W.cell? a = some v → W'.cell? a = some v := fun {a v} hx => (hb.cell (block_lt_of_cell hx)).trans hx
  exact ⟨u h.1, u h.2.1, u h.2.2.1, u h.2.2.2⟩

theorem Src5.cells {b o k : Nat} {x : SV} {W : World} (h : Src5 b o k x W) : W.cell? ⟨b, o + k * 5, none⟩ = some (.bool x.deny) ∧ W.cell? ⟨b, o + k * 5 + 1, none⟩ = some (.slice x.pa x.acts.length x.ca) ∧ W.cell? ⟨b, o + k * 5 + 2, none⟩ = some (.slice x.pr x.res.length x.cr) ∧ W.cell? ⟨b, o + k * 5 + 3, none⟩ = some (.slice x.pp x.prins.length x.cpp) ∧ W.cell? ⟨b, o + k * 5 + 4, none⟩ = some (.slice x.pc x.conds.length x.cc) := h
theorem Src4.cells {b o k : Nat} {x : SV} {W : World} (h : Src4 b o k x W) : W.cell? ⟨b, o + k * 4, none⟩ = some (.bool x.deny) ∧ W.cell? ⟨b, o + k * 4 + 1, none⟩ = some (.slice x.pa x.acts.length x.ca) ∧ W.cell? ⟨b, o + k * 4 + 2, none⟩ = some (.slice x.pr x.res.length x.cr) ∧ W.cell? ⟨b, o + k * 4 + 3, none⟩ = some (.slice x.pc x.conds.length x.cc) := h

/-- The world has grown out of the round's first, and the row stands as it was. -/
def BaseT (wr w : World) (n : Nat) (ks : List SV) (k : Nat) (W : World) : Prop := Below wr.heap.size wr W ∧ RowT w n ks k W
theorem BaseT.below {wr w : World} {n : Nat} {ks : List SV} {k : Nat} {W W' : World} (h : BaseT wr w n ks k W) (hb : Below W.heap.size W W') : BaseT wr w n ks k W' := ⟨h.1.trans (hb.mono h.1.size), h.2.below hb⟩
theorem BaseT.lt {wr w : World} {n : Nat} {ks : List SV} {k : Nat} {W : World} (h : BaseT wr w n ks k W) : w.heap.size < W.heap.size := by obtain ⟨f, vs, h1, _⟩ := h.2; exact h1.lt

theorem clone_arm {w wr : World} {n : Nat} {ks : List SV} {k : Nat} {G F : World → Prop} {W : World} {ss : List ByteArray} {p : Option Addr} {cp : Nat} (hG : ∀ V, Below wr.heap.size wr V → G V) (hB : Hid (BaseT wr w n ks k W)) (hA : Hid (At F W)) (hS : Hid (SrcS wr p ss)) :
    Calls Tryd.prog 7 #[.slice p ss.length cp] W fun e W' => ∃ q cq, e = .returned (.slice q ss.length cq) ∧ Hid (BaseT wr w n ks k W') ∧ Hid (At (fun V => F V ∧ LiesS w.heap.size p ss q V) W') ∧ G W' := by
  have hlt := hB.out.lt
  refine (clone_any ss p cp W hS.out.2.1 hS.out.2.2 (hid (hS.out.1.below hB.out.1))).mono ?_
  rintro e W' ⟨q, cq, rfl, h1, h2, h3, h4⟩
  have hB' := hB.out.below h4
  exact ⟨q, cq, rfl, hid hB', hid (fun V hV => ⟨hA.out V (h4.trans (hV.mono h4.size)), h1.below hV, h2, fun a ha => Nat.lt_of_lt_of_le hlt (h3 a ha)⟩), hG W' hB'.1⟩

theorem conds_arm {w wr : World} {n : Nat} {ks : List SV} {k : Nat} {G F : World → Prop} {W : World} {cs : List CV} {p : Option Addr} {cp : Nat} (hG : ∀ V, Below wr.heap.size wr V → G V) (hB : Hid (BaseT wr w n ks k W)) (hA : Hid (At F W)) (hS : Hid (SrcC wr p cs)) :
    Calls Tryd.prog 8 #[.slice p cs.length cp] W fun e W' => ∃ (q : Option Addr) (cq : Nat) (vs : List CV), e = .returned (.slice q vs.length cq) ∧ Hid (BaseT wr w n ks k W') ∧ Hid (At (fun V => F V ∧ LiesC w.heap.size cs q vs V) W') ∧ G W' := by
  have hlt := hB.out.lt
  have hs := hS.out.below hB.out.1
  refine (conds_any cs p cp W hs.2.1 hs.2.2.1 (hid hs.1) (hid (fun v hv => hs.2.2.2 v hv))).mono ?_
  rintro e W' ⟨q, cq, vs, rfl, h1, h2, h3, h4, h5, h6⟩
  have hB' := hB.out.below h6
  exact ⟨q, cq, vs, rfl, hid hB', hid (fun V hV => ⟨hA.out V (h6.trans (hV.mono h6.size)), h2, h3.below hV, fun v hv => ⟨(h4 v hv).1.below hV, fun a ha => Nat.lt_of_lt_of_le hlt ((h4 v hv).2 a ha)⟩, fun a ha => Nat.lt_of_lt_of_le hlt (h5 a ha)⟩), hG W' hB'.1⟩

theorem stmt_arm {w wr : World} {n : Nat} {ks : List SV} {k : Nat} {G F : World → Prop} {W : World} {d : Bool} {q1 q2 q3 q4 : Option Addr} {n1 n2 n3 n4 c1 c2 c3 c4 : Nat} (hG : ∀ V, Below wr.heap.size wr V → G V) (hk : k < n) (hB : Hid (BaseT wr w n ks k W)) (hA : Hid (At F W)) :
    Calls Tryd.prog 6 #[.bool d, .slice q1 n1 c1, .slice q2 n2 c2, .slice q3 n3 c3, .slice q4 n4 c4] W fun e W' => e = .returned (.agg #[.bool d, .slice q1 n1 c1, .slice q2 n2 c2, .slice q3 n3 c3, .slice q4 n4 c4]) ∧ Hid (BaseT wr w n ks k W') ∧ Hid (At F W') ∧ G W' ∧ NextT w k W' := by
  refine (zzstmt d q1 q2 q3 q4 n1 n2 n3 n4 c1 c2 c3 c4 W).mono ?_
  rintro e W' ⟨rfl, h4⟩
  have hB' := hB.out.below h4
  exact ⟨rfl, hid hB', hid (hA.out.below h4), hG W' hB'.1, hB'.2.next hk⟩

/-- The round's end. -/
theorem RowT.clone {w wr : World} {n : Nat} {ks : List SV} {k : Nat} {W : World} {x : SV} {q1 q2 q3 q4 : Option Addr} {vs : List CV} {c1 c2 c3 c4 : Nat} (hB : BaseT wr w n ks k W) (hk : k < ks.length) (hx : ks[k] = x) (h1 : LiesS w.heap.size x.pa x.acts q1 W) (h2 : LiesS w.heap.size x.pr x.res q2 W) (h3 : LiesS w.heap.size x.pp x.prins q3 W) (h4 : LiesC w.heap.size x.conds q4 vs W) :
    RowT w n ks (k + 1) (((((W.setCell ⟨w.heap.size, k * 5, none⟩ (.bool x.deny)).setCell ⟨w.heap.size, k * 5 + 1, none⟩ (.slice q1 x.acts.length c1)).setCell ⟨w.heap.size, k * 5 + 2, none⟩ (.slice q2 x.res.length c2)).setCell ⟨w.heap.size, k * 5 + 3, none⟩ (.slice q3 x.prins.length c3)).setCell ⟨w.heap.size, k * 5 + 4, none⟩ (.slice q4 vs.length c4)) :=
  hB.2.step hk ⟨x.deny, x.acts, q1, c1, x.res, q2, c2, x.prins, q3, c3, vs, q4, c4⟩ (by rw [hx]; exact ⟨rfl, rfl, rfl, rfl, h3.2.1, h4.1⟩) ⟨h1.1, h2.1, h3.1, h4.2.1, fun c hc => (h4.2.2.1 c hc).1, h1.2.2, h2.2.2, h3.2.2, h4.2.2.2, fun c hc => (h4.2.2.1 c hc).2⟩
/-- The round's end, at an identity policy's statement. -/
theorem RowT.cloneI {w wr : World} {n : Nat} {ks : List SV} {k : Nat} {W : World} {x : SV} {q1 q2 q4 : Option Addr} {vs : List CV} {c1 c2 c4 : Nat} (hB : BaseT wr w n ks k W) (hk : k < ks.length) (hx : ks[k] = x) (hp : x.pp = none) (hpe : x.prins = []) (h1 : LiesS w.heap.size x.pa x.acts q1 W) (h2 : LiesS w.heap.size x.pr x.res q2 W) (h4 : LiesC w.heap.size x.conds q4 vs W) :
    RowT w n ks (k + 1) (((((W.setCell ⟨w.heap.size, k * 5, none⟩ (.bool x.deny)).setCell ⟨w.heap.size, k * 5 + 1, none⟩ (.slice q1 x.acts.length c1)).setCell ⟨w.heap.size, k * 5 + 2, none⟩ (.slice q2 x.res.length c2)).setCell ⟨w.heap.size, k * 5 + 3, none⟩ (.slice none 0 0)).setCell ⟨w.heap.size, k * 5 + 4, none⟩ (.slice q4 vs.length c4)) :=
  hB.2.step hk ⟨x.deny, x.acts, q1, c1, x.res, q2, c2, [], none, 0, vs, q4, c4⟩ (by rw [hx]; exact ⟨rfl, rfl, rfl, hpe.symm, by rw [hp], h4.1⟩) ⟨h1.1, h2.1, fun h => absurd h (by simp), h4.2.1, fun c hc => (h4.2.2.1 c hc).1, h1.2.2, h2.2.2, (fun a h => by cases h), h4.2.2.2, fun c hc => (h4.2.2.1 c hc).2⟩
theorem RowT.grown {w : World} {n : Nat} {ks : List SV} {k : Nat} {W : World} (h : RowT w n ks k W) : Below w.heap.size w W := by obtain ⟨_, _, _, _, _, _, _, h⟩ := h; exact h
theorem BaseT.start {wr w : World} {n : Nat} {ks : List SV} {k : Nat} (h : RowT w n ks k wr) : BaseT wr w n ks k wr.drew := ⟨(Below.refl _ _).drew, h.below ((Below.refl _ _).drew)⟩
theorem StmtsAt.src {w wr : World} {b o k : Nat} {ks : List SV} {x : SV} (h : StmtsAt w (some ⟨b, o, none⟩) ks) (hk : k < ks.length) (hx : ks[k] = x) (hb : Below w.heap.size w wr) : (∀ V, Below wr.heap.size wr V → Src5 b o k x V) ∧ b < w.heap.size := by
  obtain ⟨b', o', e, hc⟩ := h (by omega)
  cases e
  have hs : Src5 b o k x w := by rw [← hx]; exact hc k hk
  exact ⟨fun V hV => (hs.below hb).below hV, block_lt_of_cell hs.1⟩
theorem IdentAt.src {w wr : World} {b o k : Nat} {ks : List SV} {x : SV} (h : IdentAt w (some ⟨b, o, none⟩) ks) (hk : k < ks.length) (hx : ks[k] = x) (hb : Below w.heap.size w wr) : (∀ V, Below wr.heap.size wr V → Src4 b o k x V) ∧ b < w.heap.size := by
  obtain ⟨b', o', e, hc⟩ := h (by omega)
  cases e
  have hs : Src4 b o k x w := by rw [← hx]; exact hc k hk
  exact ⟨fun V hV => (hs.below hb).below hV, block_lt_of_cell hs.1⟩
end Go.Proofs.Qxb6613124aDoor
