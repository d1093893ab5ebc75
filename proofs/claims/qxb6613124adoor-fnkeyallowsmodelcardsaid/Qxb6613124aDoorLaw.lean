/-
  THE WALK of FnKeyAllowsModel (3).
-/
import Derived.Test.Qxb6613124aDoorArms
import Derived.Deep.RegionHeld3
namespace Go.Proofs.Qxb6613124aDoor
open Go.RowKit

/-- A statement's slices: the nil one is empty. -/
structure Nils (x : SV) : Prop where
  na : x.pa = none → x.acts = []
  nr : x.pr = none → x.res = []
  np : x.pp = none → x.prins = []
  nc : x.pc = none → x.conds = []
  nv : ∀ v ∈ x.conds, v.p = none → v.c.vals = []
/-- What is read of a statement that is within the limit. -/
structure Can (w : World) (f : Int → Option (List UInt8)) (x : SV) : Prop where
  ok : StmtOk w f x
  sa : SrcS w x.pa x.acts
  sr : SrcS w x.pr x.res
  sp : SrcS w x.pp x.prins
  sc : SrcC w x.pc x.conds
theorem can_of {w : World} {mv : Value} {f : Int → Option (List UInt8)} {x : SV} (hr : Raw w mv f x) (hn : Nils x) (ha : StrsOk x.acts) (hre : StrsOk x.res) (hp : StrsOk x.prins) (hc : CondsOk f x.conds) : Can w f x where
  ok := ⟨hr.acts, hr.res, hr.prins, hn.np, hr.conds, hr.vals, fun v hv => ⟨(hc.2 v hv).1.1, (hc.2 v hv).1.2, hr.key v hv, (hc.2 v hv).2⟩, ha.1, hre.1, hp.1, hc.1, ha.2, hre.2⟩
  sa := ⟨hr.acts, ha.1, hn.na⟩
  sr := ⟨hr.res, hre.1, hn.nr⟩
  sp := ⟨hr.prins, hp.1, hn.np⟩
  sc := ⟨hr.conds, hc.1, hn.nc, fun v hv => ⟨hr.vals v hv, (hc.2 v hv).1.1, hn.nv v hv⟩⟩

/-- KeyAllows over the clones, behind the making of the key policy. -/
theorem keyAllows_at {f : Int → Option (List UInt8)} {r : Rq} {ks gs vs us : List SV} {w W V : World} {R : Nat} {pg : Option Addr} {cg : Nat} {ip : Value} {g : Bool} {n : Nat} (hE : EnvOk w r f) (hW : Below w.heap.size w W) (hV : Below W.heap.size W V) (hR : RqAt W w.heap.size r) (hkl : ks.length ≤ 1048576) (hgl : gs.length ≤ 1048576) (hn : ks.length = n)
    (hMd : Made (some ⟨R, 0, none⟩) ks vs W) (hMg : Made pg gs us W) (hKC : ∀ s ∈ ks, Can w f s) (hGC : ∀ s ∈ gs, Can w f s) (hI : ∀ U, Below W.heap.size W U → Calls Tryd.prog 21 #[ip] U fun e w' => e = .returned (.slice pg us.length cg) ∧ w' = U) (hg : allowsB f r vs us = g) :
    Calls Tryd.prog 10 #[.pointer (some ⟨V.heap.size, 0, none⟩), ip, .agg #[.string r.principal, .string r.account, .string r.action, .string r.resource, .int .i64 r.len, .string r.digits, r.mv]] (V.alloc (.cells #[.slice (some ⟨R, 0, none⟩) n n] 71)) fun e w' => e = .returned (.bool g) ∧ Hid (Below w.heap.size w w') ∧ Hid (RqAt w' w.heap.size r) := by
  have hb : Below V.heap.size V (V.alloc (.cells #[.slice (some ⟨R, 0, none⟩) n n] 71)) := (Below.refl _ _).alloc (Nat.le_refl _) _
  have hb' := hV.trans (hb.mono hV.size)
  have hb'' := hW.trans (hb'.mono hW.size)
  have hm := hMd.below hb'
  have hm' := hMg.below hb'
  subst hg
  have hx := (allows_any vs us (some ⟨R, 0, none⟩) pg n cg V.heap.size ip r f _ (hid (hE.below hb'')) (by have := hm.1; omega) (by have := hm'.1; omega) (by rw [hm.1, hn]; exact new_cell V _ 71 0 (by simp)) (hid (fun U hU => hI U (hb'.trans (hU.mono hb'.size)))) (hid hm.2.2.1) (hid hm'.2.2.1) (hid (hm.ok (fun s hs => (hKC s hs).ok))) (hid (hm'.ok (fun s hs => (hGC s hs).ok))))
  refine hx.mono ?_
  rintro e w' ⟨rfl, h6⟩
  exact ⟨rfl, hid (hb''.trans (h6.mono hb''.size)), hid ((hR.below hb').below h6)⟩

theorem same_answer {f : Int → Option (List UInt8)} {r : Rq} {ks gs vs us : List SV} {p q : Option Addr} {W : World} (hMd : Made p ks vs W) (hMg : Made q gs us W) (hp : ∀ s ∈ gs, s.pp = none) : ∃ g, allowsB f r vs us = g ∧ zallowsB f r ks gs = g :=
  ⟨_, rfl, (allows_eq hMd.1 hMg.1 (fun j h1 h2 => hMd.2.1 j h1 h2) (fun j h1 h2 => hMg.2.1 j h1 h2) (fun s hs => by rw [hp s hs]; rfl)).symm⟩
theorem made_nil (W : World) : Made none [] [] W := ⟨rfl, fun j h => by simp at h, fun h => by simp at h, 0, fun v h => by simp at h⟩

/-- The model over the originals. -/
theorem zmodel_at {f : Int → Option (List UInt8)} {r : Rq} {ks gs : List SV} {w W : World} {pk pg : Option Addr} {ck cg : Nat} {g : Bool} (hE : EnvOk w r f) (hW : Below w.heap.size w W) (hg : r.digits.size ≤ 1048576) (hkl : ks.length ≤ 1048576) (hgl : gs.length ≤ 1048576) (hK : StmtsAt w pk ks) (hG : IdentAt w pg gs) (hKC : ∀ s ∈ ks, Can w f s) (hGC : ∀ s ∈ gs, Can w f s) (hz : zallowsB f r ks gs = g) :
    Calls Tryd.prog 12 #[.slice pk ks.length ck, .slice pg gs.length cg, .agg #[.string r.principal, .string r.account, .string r.action, .string r.resource, .int .i64 r.len, .string r.digits, r.mv]] W fun e w' => e = .returned (.bool g) ∧ Below w.heap.size w w' := by
  subst hz
  refine (zmodel_any ks gs pk pg ck cg r f W (hid (hE.below hW)) hg hkl hgl (hid (hK.below hW)) (hid (hG.below hW)) (hid (fun s hs => (hKC s hs).ok.below hW)) (hid (fun s hs => (hGC s hs).ok.below hW))).mono ?_
  rintro e w' ⟨rfl, h⟩
  exact ⟨rfl, hW.trans (h.mono hW.size)⟩

set_option maxHeartbeats 4000000 in
set_option maxRecDepth 100000 in
theorem law_neg (ks gs : List SV) (pk pg : Option Addr) (ck cg : Nat) (r : Rq) (z : Int) (f : Int → Option (List UInt8)) (L : Nat) (w : World) (hz : z < 0) (hL : Hid (∀ W, Below w.heap.size w W → (Builtin.len_ #[26] 3 #[r.mv]).run Tryd.prog W = .ok (.int .i64 (L : Int)) W)) (hM : Hid (MapAll w r.mv f))
    (hK : Hid (StmtsAt w pk ks)) (hG : Hid (IdentAt w pg gs)) (hKR : Hid (∀ s ∈ ks, Raw w r.mv f s)) (hGR : Hid (∀ s ∈ gs, Raw w r.mv f s)) :
    Calls Tryd.prog 3 #[.slice pk ks.length ck, .slice pg gs.length cg, .agg #[.string r.principal, .string r.account, .string r.action, .string r.resource, .int .i64 z, .string r.digits, r.mv]] w fun e w' => e = .returned (.bool true) ∧ Below w.heap.size w w' := by
  have hB := hid ((Below.refl w.heap.size w).alloc (Nat.le_refl _) (.cells #[.string r.principal, .string r.account, .string r.action, .string r.resource, .int .i64 z, .string r.digits, r.mv] 30))
  have hR := hid (RzAt.new w r z)
  go_enter Tryd.func3, Tryd.ntmps3
  go_wp2_with fail
  generalize w.alloc (.cells #[.string r.principal, .string r.account, .string r.action, .string r.resource, .int .i64 z, .string r.digits, r.mv] 30) = W1 at hR hB ⊢
  refine (allSize ks gs pk pg ck cg r z f L W1 (hid (fun W hb => hL.out W (hB.out.trans (hb.mono hB.out.size)))) (hid (fun W hb => hM.out W (hB.out.trans (hb.mono hB.out.size)))) (hid (hK.out.below hB.out)) (hid (hG.out.below hB.out)) (hid (fun s hs => (hKR.out s hs).below hB.out)) (hid (fun s hs => (hGR.out s hs).below hB.out))).mono ?_
  rintro e W2 ⟨⟨m, rfl, hm, hP⟩, hb2⟩
  have hR2 := hR.out.below hb2
  obtain ⟨c0, c1, c2, c3, c4, c5, c6⟩ := hR2
  by_cases hm1 : m ≤ 1048576
  · go_wp2
    go_ret
    exact ⟨rfl, hB.out.trans (hb2.mono hB.out.size)⟩
  · have hl' : ¬ ((m : Int) ≤ 1048576) := by omega
    go_wp2
    go_ret
    exact ⟨rfl, hB.out.trans (hb2.mono hB.out.size)⟩
end Go.Proofs.Qxb6613124aDoor
