/-
  THE WALK of zzKeyAllowsSize (5).
-/
import Derived.Test.Qxb6613124aDoorRqsize
import Derived.Test.Qxb6613124aDoorKcov
namespace Go.Proofs.Qxb6613124aDoor
open Go.RowKit

/-- A key policy's statement is within the limit. -/
def SvSm (f : Int → Option (List UInt8)) (s : SV) : Prop := StrsOk s.acts ∧ StrsOk s.res ∧ StrsOk s.prins ∧ CondsOk f s.conds
/-- An identity policy's. -/
def IvSm (f : Int → Option (List UInt8)) (s : SV) : Prop := StrsOk s.acts ∧ StrsOk s.res ∧ CondsOk f s.conds
def SvTo (f : Int → Option (List UInt8)) (ks : List SV) (k : Nat) : Prop := ∀ (j : Nat) (h : j < ks.length), j < k → SvSm f ks[j]
def IvTo (f : Int → Option (List UInt8)) (ks : List SV) (k : Nat) : Prop := ∀ (j : Nat) (h : j < ks.length), j < k → IvSm f ks[j]
/-- All is within the limit. -/
def AllOk (f : Int → Option (List UInt8)) (r : Rq) (ks gs : List SV) : Prop := RqOk r ∧ ks.length ≤ 1048576 ∧ gs.length ≤ 1048576 ∧ (∀ s ∈ ks, SvSm f s) ∧ ∀ s ∈ gs, IvSm f s

/-- A statement's parts can be read, whatever their sizes. -/
structure Raw (w : World) (mv : Value) (f : Int → Option (List UInt8)) (sv : SV) : Prop where
  acts : StrsAt w sv.pa sv.acts
  res : StrsAt w sv.pr sv.res
  prins : StrsAt w sv.pp sv.prins
  conds : CondsAt w sv.pc sv.conds
  vals : ∀ v ∈ sv.conds, StrsAt w v.p v.c.vals
  key : ∀ v ∈ sv.conds, (Lit.int .i64 v.c.pcr).wf = true
theorem Raw.below {w w' : World} {mv : Value} {f : Int → Option (List UInt8)} {sv : SV} (h : Raw w mv f sv) (hb : Below w.heap.size w w') : Raw w' mv f sv :=
  ⟨h.acts.below hb, h.res.below hb, h.prins.below hb, h.conds.below hb, fun v hv => (h.vals v hv).below hb, h.key⟩

set_option maxHeartbeats 1600000 in
set_option maxRecDepth 100000 in
theorem allSize (ks gs : List SV) (pk pg : Option Addr) (ck cg : Nat) (r : Rq) (z : Int) (f : Int → Option (List UInt8)) (L : Nat) (w : World) (hL : Hid (∀ W, Below w.heap.size w W → (Builtin.len_ #[26] 3 #[r.mv]).run Tryd.prog W = .ok (.int .i64 (L : Int)) W)) (hM : Hid (MapAll w r.mv f))
    (hK : Hid (StmtsAt w pk ks)) (hG : Hid (IdentAt w pg gs)) (hKR : Hid (∀ s ∈ ks, Raw w r.mv f s)) (hGR : Hid (∀ s ∈ gs, Raw w r.mv f s)) :
    Calls Tryd.prog 5 #[.slice pk ks.length ck, .slice pg gs.length cg, .agg #[.string r.principal, .string r.account, .string r.action, .string r.resource, .int .i64 z, .string r.digits, r.mv]] w fun e w' => SizeP 0 (AllOk f r ks gs) e ∧ Below w.heap.size w w' := by
  have hB := hid ((Below.refl w.heap.size w).alloc (Nat.le_refl _) (.cells #[.string r.principal, .string r.account, .string r.action, .string r.resource, .int .i64 z, .string r.digits, r.mv] 30))
  have hR := hid (RzAt.new w r z)
  go_enter Tryd.func5, Tryd.ntmps5
  go_wp2_with fail
  refine (rqSize r z L _ (hid (fun W hb => hL.out W (hB.out.trans (hb.mono hB.out.size))))).mono ?_
  rintro e W2 ⟨⟨m1, rfl, hm1, hP1⟩, hb2⟩
  have hB2 := hid (hB.out.trans (hb2.mono hB.out.size))
  have hR2 := hR.out.below hb2
  have c6 := hR2.2.2.2.2.2.2
  clear hR2 hR hb2
  by_cases hkl : ks.length ≤ 1048576
  · by_cases hgl : gs.length ≤ 1048576
    · go_wp2_with fail
      refine (add_any m1 (128 * ks.length) _ hm1).mono ?_
      rintro e w3 ⟨⟨m2, rfl, hm2, hP2⟩, rfl⟩
      go_wp2_with fail
      refine (add_any m2 (104 * gs.length) _ hm2).mono ?_
      rintro e w3 ⟨⟨m3, rfl, hm3, hP3⟩, rfl⟩
      go_wp2
      go_loopw [7, 9] (fun s7 si wr => ∃ (m k : Nat), k ≤ ks.length ∧ si = .int .i64 k ∧ s7 = .int .i64 m ∧ m ≤ 1048577 ∧ Hid (m ≤ 1048576 → RqOk r ∧ SvTo f ks k) ∧ wr = w3) (fun _ j _ => ks.length - (intOf j).toNat)
      case atStart => exact ⟨m3, 0, Nat.zero_le _, rfl, rfl, hm3, hid (fun h => ⟨(hP1 (hP2 (hP3 h).1).1).2, fun j _ h0 => by omega⟩), rfl⟩
      case round =>
        obtain ⟨m, k, hk, rfl, rfl, hm, hP, rfl⟩ := hrel
        by_cases hgo : m ≤ 1048576 ∧ k < ks.length
        · obtain ⟨hm1', hlt⟩ := hgo
          obtain ⟨bb, o, rfl, hcell⟩ := (hK.out.below hB2.out) (by omega)
          obtain ⟨d0, d1, d2, d3, d4⟩ := hcell k hlt
          have hraw := hid ((hKR.out ks[k] (List.getElem_mem hlt)).below hB2.out)
          obtain ⟨x, hx⟩ : ∃ x, ks[k] = x := ⟨_, rfl⟩
          rw [hx] at d1 d2 d3 d4 hraw
          have HX := hid hx
          clear hx hcell d0
          go_wp2_with fail
          refine (strsSize m x.acts x.pa x.ca wr hm hraw.out.acts).mono ?_
          rintro e w4 ⟨⟨n1, rfl, hn1, hQ1⟩, rfl⟩
          go_wp2_with fail
          refine (strsSize n1 x.res x.pr x.cr _ hn1 hraw.out.res).mono ?_
          rintro e w4 ⟨⟨n2, rfl, hn2, hQ2⟩, rfl⟩
          go_wp2_with fail
          refine (strsSize n2 x.prins x.pp x.cpp _ hn2 hraw.out.prins).mono ?_
          rintro e w4 ⟨⟨n3, rfl, hn3, hQ3⟩, rfl⟩
          go_wp2_with fail
          refine (condsSize n3 x.conds x.pc x.cc r.mv f _ hn3 hraw.out.conds hraw.out.vals (fun v hv => hM.out _ hB2.out v.c.pcr (hraw.out.key v hv))).mono ?_
          rintro e w4 ⟨⟨n4, rfl, hn4, hQ4⟩, rfl⟩
          go_wp2
          refine ⟨⟨n4, k + 1, by omega, by go_num, rfl, hn4, hid (fun h => ⟨(hP.out hm1').1, ?_⟩), by first | rfl | trivial⟩, by simp [intOf]; omega⟩
          intro j hj hjk
          by_cases e : j = k
          · subst e
            rw [HX.out]
            have h3 := (hQ4 h).1
            have h2 := (hQ3 h3).1
            exact ⟨(hQ1 (hQ2 h2).1).2, (hQ2 h2).2, (hQ3 h3).2, (hQ4 h).2⟩
          · exact (hP.out hm1').2 j hj (by omega)
        · have HQ : Hid (m ≤ 1048576 → RqOk r ∧ ∀ s ∈ ks, SvSm f s) := by
            refine hid (fun h => ⟨(hP.out h).1, fun s hs => ?_⟩)
            obtain ⟨j, hj, rfl⟩ := List.getElem_of_mem hs
            have hke : k = ks.length := by
              have : ¬ k < ks.length := fun hh => hgo ⟨h, hh⟩
              omega
            exact (hP.out h).2 j hj (by omega)
          by_cases hlt : k < ks.length
          · have hm1' : ¬ ((m : Int) ≤ 1048576) := fun h => hgo ⟨by omega, hlt⟩
            go_wp2
            go_loopw [7, 10] (fun s7 si wx => ∃ (m k : Nat), k ≤ gs.length ∧ si = .int .i64 k ∧ s7 = .int .i64 m ∧ m ≤ 1048577 ∧ Hid (m ≤ 1048576 → (RqOk r ∧ ∀ s ∈ ks, SvSm f s) ∧ IvTo f gs k) ∧ wx = wr) (fun _ j _ => gs.length - (intOf j).toNat)
            case atStart => exact ⟨m, 0, Nat.zero_le _, rfl, rfl, hm, hid (fun h => ⟨HQ.out h, fun j _ h0 => by omega⟩), rfl⟩
            case round =>
              clear hm hlt hP HQ hm1' hgo
              obtain ⟨m, k, hk, rfl, rfl, hm, hP, rfl⟩ := hrel
              by_cases hgo : m ≤ 1048576 ∧ k < gs.length
              · obtain ⟨hm1', hlt⟩ := hgo
                obtain ⟨bb, o, rfl, hcell⟩ := (hG.out.below hB2.out) (by omega)
                obtain ⟨d0, d1, d2, d4⟩ := hcell k hlt
                have hraw := hid ((hGR.out gs[k] (List.getElem_mem hlt)).below hB2.out)
                obtain ⟨x, hx⟩ : ∃ x, gs[k] = x := ⟨_, rfl⟩
                rw [hx] at d1 d2 d4 hraw
                have HX := hid hx
                clear hx hcell d0
                go_wp2_with fail
                refine (strsSize m x.acts x.pa x.ca _ hm hraw.out.acts).mono ?_
                rintro e w4 ⟨⟨n1, rfl, hn1, hQ1⟩, rfl⟩
                go_wp2_with fail
                refine (strsSize n1 x.res x.pr x.cr _ hn1 hraw.out.res).mono ?_
                rintro e w4 ⟨⟨n2, rfl, hn2, hQ2⟩, rfl⟩
                go_wp2_with fail
                refine (condsSize n2 x.conds x.pc x.cc r.mv f _ hn2 hraw.out.conds hraw.out.vals (fun v hv => hM.out _ hB2.out v.c.pcr (hraw.out.key v hv))).mono ?_
                rintro e w4 ⟨⟨n4, rfl, hn4, hQ4⟩, rfl⟩
                go_wp2
                refine ⟨⟨n4, k + 1, by omega, by go_num, rfl, hn4, hid (fun h => ⟨(hP.out hm1').1, ?_⟩), by first | rfl | trivial⟩, by simp [intOf]; omega⟩
                intro j hj hjk
                by_cases e : j = k
                · subst e
                  rw [HX.out]
                  have h2 := (hQ4 h).1
                  exact ⟨(hQ1 (hQ2 h2).1).2, (hQ2 h2).2, (hQ4 h).2⟩
                · exact (hP.out hm1').2 j hj (by omega)
              · by_cases hlt : k < gs.length
                · have hm1' : ¬ ((m : Int) ≤ 1048576) := fun h => hgo ⟨by omega, hlt⟩
                  go_wp2
                  go_ret
                  exact ⟨sizeP_in rfl hm (fun h => absurd h (by omega)), hB2.out⟩
                · obtain rfl : k = gs.length := by omega
                  go_wp2
                  go_ret
                  refine ⟨sizeP_in rfl hm (fun h => ⟨Nat.zero_le _, (hP.out h).1.1, hkl, hgl, (hP.out h).1.2, fun s hs => ?_⟩), hB2.out⟩
                  obtain ⟨j, hj, rfl⟩ := List.getElem_of_mem hs
                  exact (hP.out h).2 j hj hj
          · have hltI : ¬ ((k : Int) < (ks.length : Int)) := by omega
            go_wp2
            go_loopw [7, 10] (fun s7 si wx => ∃ (m k : Nat), k ≤ gs.length ∧ si = .int .i64 k ∧ s7 = .int .i64 m ∧ m ≤ 1048577 ∧ Hid (m ≤ 1048576 → (RqOk r ∧ ∀ s ∈ ks, SvSm f s) ∧ IvTo f gs k) ∧ wx = wr) (fun _ j _ => gs.length - (intOf j).toNat)
            case atStart => exact ⟨m, 0, Nat.zero_le _, rfl, rfl, hm, hid (fun h => ⟨HQ.out h, fun j _ h0 => by omega⟩), rfl⟩
            case round =>
              clear hm hlt hP HQ hltI hgo
              obtain ⟨m, k, hk, rfl, rfl, hm, hP, rfl⟩ := hrel
              by_cases hgo : m ≤ 1048576 ∧ k < gs.length
              · obtain ⟨hm1', hlt⟩ := hgo
                obtain ⟨bb, o, rfl, hcell⟩ := (hG.out.below hB2.out) (by omega)
                obtain ⟨d0, d1, d2, d4⟩ := hcell k hlt
                have hraw := hid ((hGR.out gs[k] (List.getElem_mem hlt)).below hB2.out)
                obtain ⟨x, hx⟩ : ∃ x, gs[k] = x := ⟨_, rfl⟩
                rw [hx] at d1 d2 d4 hraw
                have HX := hid hx
                clear hx hcell d0
                go_wp2_with fail
                refine (strsSize m x.acts x.pa x.ca _ hm hraw.out.acts).mono ?_
                rintro e w4 ⟨⟨n1, rfl, hn1, hQ1⟩, rfl⟩
                go_wp2_with fail
                refine (strsSize n1 x.res x.pr x.cr _ hn1 hraw.out.res).mono ?_
                rintro e w4 ⟨⟨n2, rfl, hn2, hQ2⟩, rfl⟩
                go_wp2_with fail
                refine (condsSize n2 x.conds x.pc x.cc r.mv f _ hn2 hraw.out.conds hraw.out.vals (fun v hv => hM.out _ hB2.out v.c.pcr (hraw.out.key v hv))).mono ?_
                rintro e w4 ⟨⟨n4, rfl, hn4, hQ4⟩, rfl⟩
                go_wp2
                refine ⟨⟨n4, k + 1, by omega, by go_num, rfl, hn4, hid (fun h => ⟨(hP.out hm1').1, ?_⟩), by first | rfl | trivial⟩, by simp [intOf]; omega⟩
                intro j hj hjk
                by_cases e : j = k
                · subst e
                  rw [HX.out]
                  have h2 := (hQ4 h).1
                  exact ⟨(hQ1 (hQ2 h2).1).2, (hQ2 h2).2, (hQ4 h).2⟩
                · exact (hP.out hm1').2 j hj (by omega)
              · by_cases hlt : k < gs.length
                · have hm1' : ¬ ((m : Int) ≤ 1048576) := fun h => hgo ⟨by omega, hlt⟩
                  go_wp2
                  go_ret
                  exact ⟨sizeP_in rfl hm (fun h => absurd h (by omega)), hB2.out⟩
                · obtain rfl : k = gs.length := by omega
                  go_wp2
                  go_ret
                  refine ⟨sizeP_in rfl hm (fun h => ⟨Nat.zero_le _, (hP.out h).1.1, hkl, hgl, (hP.out h).1.2, fun s hs => ?_⟩), hB2.out⟩
                  obtain ⟨j, hj, rfl⟩ := List.getElem_of_mem hs
                  exact (hP.out h).2 j hj hj
    · have hl' : ¬ ((gs.length : Int) ≤ 1048576) := by omega
      go_wp2
      go_ret
      exact ⟨sizeP_out, hB2.out⟩
  · have hl' : ¬ ((ks.length : Int) ≤ 1048576) := by omega
    go_wp2
    go_ret
    exact ⟨sizeP_out, hB2.out⟩
end Go.Proofs.Qxb6613124aDoor
