/-
  THE WALK of zzKeyAllowsModel (12).
-/
import Derived.Test.Qxb6613124aDoorKcov
import Derived.Test.Qxb6613124aDoorAllows
namespace Go.Proofs.Qxb6613124aDoor
open Go.RowKit

/-- What the model answers. -/
noncomputable def zallowsB (f : Int → Option (List UInt8)) (r : Rq) (ks gs : List SV) : Bool :=
  if ks.any (zkeyB f r true [r.principal, r.account, starB]) || gs.any (zidB f r true) then false
  else if ks.any (zkeyB f r false [r.principal, starB]) then true
  else ks.any (zkeyB f r false [r.account]) && gs.any (zidB f r false)

theorem zkey_at (ks : List SV) (p : Option Addr) (cp : Nat) (r : Rq) (f : Int → Option (List UInt8)) (deny : Bool) (who : List ByteArray) (q : Option Addr) (cq n : Nat) (w W : World) {b : Bool} (hE : Hid (EnvOk w r f)) (hg : r.digits.size ≤ 1048576) (hl : ks.length ≤ 1048576) (hK : Hid (StmtsAt w p ks)) (hO : Hid (∀ s ∈ ks, StmtOk w f s)) (hA : AtR w r W) (hW : StrsAt W q who) (hn : who.length = n) (hwl : n ≤ 1048576) (hv : ks.any (zkeyB f r deny who) = b) :
    Calls Tryd.prog 25 #[.slice p ks.length cp, .agg #[.string r.principal, .string r.account, .string r.action, .string r.resource, .int .i64 r.len, .string r.digits, r.mv], .bool deny, .slice q n cq] W fun e w' => e = .returned (.bool b) ∧ AtR w r w' := by
  subst hn hv
  refine (zzKey_any ks p cp r f deny who q cq W (hE.out.below hA.2.1) hg hl (hK.out.below hA.2.1) (fun s hs => (hO.out s hs).below hA.2.1) hwl hW).mono ?_
  rintro e w2 ⟨rfl, hb2⟩
  exact ⟨rfl, hA.below hb2⟩
theorem zid_at (gs : List SV) (p : Option Addr) (cp : Nat) (r : Rq) (f : Int → Option (List UInt8)) (deny : Bool) (w W : World) {b : Bool} (hE : Hid (EnvOk w r f)) (hg : r.digits.size ≤ 1048576) (hl : gs.length ≤ 1048576) (hK : Hid (IdentAt w p gs)) (hO : Hid (∀ s ∈ gs, StmtOk w f s)) (hA : AtR w r W) (hv : gs.any (zidB f r deny) = b) :
    Calls Tryd.prog 26 #[.slice p gs.length cp, .agg #[.string r.principal, .string r.account, .string r.action, .string r.resource, .int .i64 r.len, .string r.digits, r.mv], .bool deny] W fun e w' => e = .returned (.bool b) ∧ AtR w r w' := by
  subst hv
  refine (zzId_any gs p cp r f deny W (hE.out.below hA.2.1) hg hl (hK.out.below hA.2.1) (fun s hs => (hO.out s hs).below hA.2.1)).mono ?_
  rintro e w2 ⟨rfl, hb2⟩
  exact ⟨rfl, hA.below hb2⟩

theorem zallows_1 {f : Int → Option (List UInt8)} {r : Rq} {ks gs : List SV} (h : ks.any (zkeyB f r true [r.principal, r.account, starB]) = true) : zallowsB f r ks gs = false := by unfold zallowsB; rw [h]; simp
theorem zallows_2 {f : Int → Option (List UInt8)} {r : Rq} {ks gs : List SV} (h : gs.any (zidB f r true) = true) : zallowsB f r ks gs = false := by unfold zallowsB; rw [h]; simp
theorem zallows_3 {f : Int → Option (List UInt8)} {r : Rq} {ks gs : List SV} (h1 : ks.any (zkeyB f r true [r.principal, r.account, starB]) = false) (h2 : gs.any (zidB f r true) = false) (h3 : ks.any (zkeyB f r false [r.principal, starB]) = true) : zallowsB f r ks gs = true := by unfold zallowsB; rw [h1, h2, h3]; simp
theorem zallows_4 {f : Int → Option (List UInt8)} {r : Rq} {ks gs : List SV} {b4 b5 : Bool} (h1 : ks.any (zkeyB f r true [r.principal, r.account, starB]) = false) (h2 : gs.any (zidB f r true) = false) (h3 : ks.any (zkeyB f r false [r.principal, starB]) = false) (h4 : ks.any (zkeyB f r false [r.account]) = b4) (h5 : gs.any (zidB f r false) = b5) : zallowsB f r ks gs = (b4 && b5) := by unfold zallowsB; rw [h1, h2, h3, h4, h5]; simp

theorem AtR.cells {w : World} {r : Rq} {W : World} (h : AtR w r W) : W.cell? ⟨w.heap.size, 0, none⟩ = some (.string r.principal) ∧ W.cell? ⟨w.heap.size, 1, none⟩ = some (.string r.account) ∧ W.cell? ⟨w.heap.size, 2, none⟩ = some (.string r.action) ∧ W.cell? ⟨w.heap.size, 3, none⟩ = some (.string r.resource) ∧ W.cell? ⟨w.heap.size, 4, none⟩ = some (.int .i64 r.len) ∧ W.cell? ⟨w.heap.size, 5, none⟩ = some (.string r.digits) ∧ W.cell? ⟨w.heap.size, 6, none⟩ = some r.mv := h.1
theorem AtR.alloc {w : World} {r : Rq} {W : World} (h : AtR w r W) (o : Obj) : AtR w r (W.alloc o) := h.below ((Below.refl _ _).alloc (Nat.le_refl _) o)

set_option maxHeartbeats 1600000 in
set_option maxRecDepth 100000 in
theorem zmodel_any (ks gs : List SV) (pk pg : Option Addr) (ck cg : Nat) (r : Rq) (f : Int → Option (List UInt8)) (w : World) (hE : Hid (EnvOk w r f)) (hg : r.digits.size ≤ 1048576) (hkl : ks.length ≤ 1048576) (hgl : gs.length ≤ 1048576)
    (hKS : Hid (StmtsAt w pk ks)) (hGS : Hid (IdentAt w pg gs)) (hKO : Hid (∀ s ∈ ks, StmtOk w f s)) (hGO : Hid (∀ s ∈ gs, StmtOk w f s)) :
    Calls Tryd.prog 12 #[.slice pk ks.length ck, .slice pg gs.length cg, .agg #[.string r.principal, .string r.account, .string r.action, .string r.resource, .int .i64 r.len, .string r.digits, r.mv]] w fun e w' => e = .returned (.bool (zallowsB f r ks gs)) ∧ Below w.heap.size w w' := by
  have hA := hid (AtR.start w r)
  obtain ⟨b1, hb1⟩ : ∃ b1, ks.any (zkeyB f r true [r.principal, r.account, starB]) = b1 := ⟨_, rfl⟩
  obtain ⟨b2, hb2⟩ : ∃ b2, gs.any (zidB f r true) = b2 := ⟨_, rfl⟩
  obtain ⟨b3, hb3⟩ : ∃ b3, ks.any (zkeyB f r false [r.principal, starB]) = b3 := ⟨_, rfl⟩
  obtain ⟨b4, hb4⟩ : ∃ b4, ks.any (zkeyB f r false [r.account]) = b4 := ⟨_, rfl⟩
  obtain ⟨b5, hb5⟩ : ∃ b5, gs.any (zidB f r false) = b5 := ⟨_, rfl⟩
  have HB1 := hid hb1
  have HB2 := hid hb2
  have HB3 := hid hb3
  have HB4 := hid hb4
  have HB5 := hid hb5
  clear hb1 hb2 hb3 hb4 hb5
  go_enter Tryd.func12, Tryd.ntmps12
  go_wp2_with fail
  have hz1 : (w.alloc (.cells #[.string r.principal, .string r.account, .string r.action, .string r.resource, .int .i64 r.len, .string r.digits, r.mv] 30)).heap.size = w.heap.size + 1 := by simp
  generalize w.alloc (.cells #[.string r.principal, .string r.account, .string r.action, .string r.resource, .int .i64 r.len, .string r.digits, r.mv] 30) = W1 at hA hz1 ⊢
  rw [← hz1]
  refine (zkey_at ks pk ck r f true [r.principal, r.account, starB] (some ⟨W1.heap.size, 0, none⟩) 3 3 w _ hE hg hkl hKS hKO (hA.out.alloc _) (strs3 (rowL W1 #[.string r.principal, .string r.account, .string starB] 9)) rfl (by omega) HB1.out).mono ?_
  rintro e w2 ⟨rfl, hA2'⟩
  have hA2 := hid hA2'
  clear hA2'
  obtain ⟨c0, c1, c2, c3, c4, c5, c6⟩ := hA2.out.cells
  cases b1 with
  | true =>
    go_wp2
    go_ret
    exact ⟨ret_bool (zallows_1 HB1.out).symm, hA2.out.2.1⟩
  | false =>
    go_wp2_with fail
    refine (zid_at gs pg cg r f true w _ hE hg hgl hGS hGO hA2.out HB2.out).mono ?_
    rintro e w3 ⟨rfl, hA3'⟩
    have hA3 := hid hA3'
    clear hA3' c0 c1 c2 c3 c4 c5 c6
    obtain ⟨c0, c1, c2, c3, c4, c5, c6⟩ := hA3.out.cells
    cases b2 with
    | true =>
      go_wp2
      go_ret
      exact ⟨ret_bool (zallows_2 HB2.out).symm, hA3.out.2.1⟩
    | false =>
      go_wp2_with fail
      refine (zkey_at ks pk ck r f false [r.principal, starB] (some ⟨w3.heap.size, 0, none⟩) 2 2 w _ hE hg hkl hKS hKO (hA3.out.alloc _) (strs2 (rowL w3 #[.string r.principal, .string starB] 9)) rfl (by omega) HB3.out).mono ?_
      rintro e w4 ⟨rfl, hA4'⟩
      have hA4 := hid hA4'
      clear hA4' c0 c1 c2 c3 c4 c5 c6
      obtain ⟨c0, c1, c2, c3, c4, c5, c6⟩ := hA4.out.cells
      cases b3 with
      | true =>
        go_wp2
        go_ret
        exact ⟨ret_bool (zallows_3 HB1.out HB2.out HB3.out).symm, hA4.out.2.1⟩
      | false =>
        go_wp2_with fail
        refine (zkey_at ks pk ck r f false [r.account] (some ⟨w4.heap.size, 0, none⟩) 1 1 w _ hE hg hkl hKS hKO (hA4.out.alloc _) (strs1 (rowL w4 #[.string r.account] 9)) rfl (by omega) HB4.out).mono ?_
        rintro e w5 ⟨rfl, hA5'⟩
        have hA5 := hid hA5'
        clear hA5' c0 c1 c2 c3 c4 c5 c6
        obtain ⟨c0, c1, c2, c3, c4, c5, c6⟩ := hA5.out.cells
        cases b4 with
        | false =>
          go_wp2
          go_ret
          exact ⟨ret_bool (by rw [zallows_4 HB1.out HB2.out HB3.out HB4.out HB5.out]; simp), hA5.out.2.1⟩
        | true =>
          go_wp2_with fail
          refine (zid_at gs pg cg r f false w _ hE hg hgl hGS hGO hA5.out HB5.out).mono ?_
          rintro e w6 ⟨rfl, hA6⟩
          go_wp2
          go_ret
          exact ⟨ret_bool (by rw [zallows_4 HB1.out HB2.out HB3.out HB4.out HB5.out]; simp), hA6.2.1⟩
end Go.Proofs.Qxb6613124aDoor
