/-
  THE WALKS of zzKeyCovers (25), zzIdentityCovers (26) and zzKeyAllowsModel (12).
-/
import Derived.Test.Qxb6613124aDoorStmt
namespace Go.Proofs.Qxb6613124aDoor
open Go.RowKit

/-- A key policy's statement covers the request, as the model says. -/
noncomputable def zkeyB (f : Int → Option (List UInt8)) (r : Rq) (deny : Bool) (who : List ByteArray) (sv : SV) : Bool :=
  (sv.pp.isNone || sv.prins.any (oneOf who)) && zcovB f r deny false sv.deny sv.acts sv.res sv.conds
/-- An identity policy's. -/
noncomputable def zidB (f : Int → Option (List UInt8)) (r : Rq) (deny : Bool) (sv : SV) : Bool := zcovB f r deny (!deny) sv.deny sv.acts sv.res sv.conds

theorem StmtOk.parts {w : World} {f : Int → Option (List UInt8)} {sv : SV} (h : StmtOk w f sv) : PartsOk w f sv.acts sv.res sv.conds sv.pa sv.pr sv.pc :=
  ⟨h.acts, h.res, h.conds, h.vals, h.ok, h.la, h.lr, h.lc, h.za, h.zr⟩

theorem zz_is (sv : SV) (r : Rq) (f : Int → Option (List UInt8)) (deny ex : Bool) (w0 w : World) {b : Bool} (hE : Hid (EnvOk w0 r f)) (hg : r.digits.size ≤ 1048576) (hS : Hid (StmtOk w0 f sv)) (hB : Below w0.heap.size w0 w) (hb : zcovB f r deny ex sv.deny sv.acts sv.res sv.conds = b) :
    Calls Tryd.prog 47 #[.bool sv.deny, .slice sv.pa sv.acts.length sv.ca, .slice sv.pr sv.res.length sv.cr, .slice sv.pc sv.conds.length sv.cc, .agg #[.string r.principal, .string r.account, .string r.action, .string r.resource, .int .i64 r.len, .string r.digits, r.mv], .bool deny, .bool ex] w fun e w' => e = .returned (.bool b) ∧ Below w.heap.size w w' := by
  subst hb
  exact zzStmt3 sv.deny sv.acts sv.res sv.conds sv.pa sv.pr sv.pc sv.ca sv.cr sv.cc r f deny ex w (hE.out.below hB) hg (hS.out.below hB).parts

set_option maxHeartbeats 1600000 in
set_option maxRecDepth 100000 in
theorem zzKey_any (ks : List SV) (p : Option Addr) (cp : Nat) (r : Rq) (f : Int → Option (List UInt8)) (deny : Bool) (who : List ByteArray) (q : Option Addr) (cq : Nat) (w : World) (hE : Hid (EnvOk w r f)) (hg : r.digits.size ≤ 1048576) (hl : ks.length ≤ 1048576) (hK : Hid (StmtsAt w p ks)) (hO : Hid (∀ s ∈ ks, StmtOk w f s)) (hwl : who.length ≤ 1048576) (hW : Hid (StrsAt w q who)) :
    Calls Tryd.prog 25 #[.slice p ks.length cp, .agg #[.string r.principal, .string r.account, .string r.action, .string r.resource, .int .i64 r.len, .string r.digits, r.mv], .bool deny, .slice q who.length cq] w fun e w' => e = .returned (.bool (ks.any (zkeyB f r deny who))) ∧ Below w.heap.size w w' := by
  have hnil := fun (a : Option Addr) (l c : Nat) (w : World) => run_neq_slice_nil (P := Tryd.prog) w 33 9 a l c Tryd.underlying33
  have hA := hid (AtR.start w r)
  go_enter Tryd.func25, Tryd.ntmps25
  go_wp2
  go_loopw [9] (fun si wr => ∃ i : Nat, i ≤ ks.length ∧ si = .int .i64 i ∧ Hid (∀ (q : Nat) (hq : q < ks.length), q < i → zkeyB f r deny who ks[q] = false) ∧ Hid (AtR w r wr)) (fun j _ => ks.length - (intOf j).toNat)
  case atStart => exact ⟨0, Nat.zero_le _, rfl, hid (by intro q _ h; omega), hA⟩
  case round =>
    obtain ⟨i, hi, rfl, hno, hAr⟩ := hrel
    by_cases hlt : i < ks.length
    · obtain ⟨bb, o, rfl, hcell⟩ := hK.out (by omega)
      obtain ⟨d0, d1, d2, d3, d4⟩ := hcell i hlt
      have up2 : ∀ {a : Addr} {v : Value}, w.cell? a = some v → wr.cell? a = some v := fun {a v} hx => (hAr.out.2.1.cell (block_lt_of_cell hx)).trans hx
      have k0 := hid (up2 d0)
      have k1 := hid (up2 d1)
      have k2 := hid (up2 d2)
      have k3 := up2 d3
      have k4 := hid (up2 d4)
      have hok := hid (hO.out ks[i] (List.getElem_mem hlt))
      have hnx : Hid (∀ W, Hid (AtR w r W) → zkeyB f r deny who ks[i] = false → ∃ i_1, i_1 ≤ ks.length ∧ Value.int IntKind.i64 ((i : Int) + 1) = Value.int IntKind.i64 (i_1 : Int) ∧ Hid (∀ (q : Nat) (hq : q < ks.length), q < i_1 → zkeyB f r deny who ks[q] = false) ∧ Hid (AtR w r W)) := by
        refine hid (fun W hW hz => ⟨i + 1, by omega, by simp, hid ?_, hW⟩)
        intro q hq hqi
        by_cases e : q = i
        · subst e; exact hz
        · exact hno.out q hq (by omega)
      have hyes : Hid (zkeyB f r deny who ks[i] = true → ks.any (zkeyB f r deny who) = true) := hid (fun h => any_at ks _ i hlt h)
      have hii : (i : Int) < (ks.length : Int) := by omega
      clear d0 d1 d2 d3 d4 hcell up2
      generalize ks[i] = x at *
      cases hpp : x.pp with
      | none =>
        have HP := hid (show (x.pp.isNone || x.prins.any (oneOf who)) = true by rw [hpp]; rfl)
        rw [hpp] at k3
        clear hpp
        obtain ⟨j0, j1, j2, j4⟩ : _ ∧ _ ∧ _ ∧ _ := ⟨k0.out, k1.out, k2.out, k4.out⟩
        have q0 := cell_regrown j0
        have q1 := cell_regrown j1
        have q2 := cell_regrown j2
        have q4 := cell_regrown j4
        have s0 := cell_regrown hAr.out.1.1
        have s1 := cell_regrown hAr.out.1.2.1
        have s2 := cell_regrown hAr.out.1.2.2.1
        have s3 := cell_regrown hAr.out.1.2.2.2.1
        have s4 := cell_regrown hAr.out.1.2.2.2.2.1
        have s5 := cell_regrown hAr.out.1.2.2.2.2.2.1
        have s6 := cell_regrown hAr.out.1.2.2.2.2.2.2
        have hzz : ∀ d os, Below w.heap.size w (Sort.grow (redrawn wr d) os) := fun d os => hAr.out.2.1.trans ((below_regrown wr d os).mono hAr.out.2.1.size)
        obtain ⟨bz, hbz⟩ : ∃ bz, zcovB f r deny false x.deny x.acts x.res x.conds = bz := ⟨_, rfl⟩
        have HBZ := hid hbz
        clear hbz
        go_wp2
        refine wp_region_quiet_below (by kernel_rfl) (by kernel_rfl) ?_
        repeat (first | go_big_quiet_step (exact Calls.regrown_of (zz_is x r f deny false w _ hE hg hok (hzz _ _) HBZ.out)) | quiet_step (exact Calls.regrown_of (zz_is x r f deny false w _ hE hg hok (hzz _ _) HBZ.out)))
        refine wpQuiet_nil ?_
        intro _ hw'
        obtain ⟨⟨dq, osq⟩, hw''⟩ := hw'
        subst hw''
        have hA2 := hid (hAr.out.below (below_regrown wr dq osq))
        clear q0 q1 q2 q4 s0 s1 s2 s3 s4 s5 s6 hzz
        generalize Sort.grow (redrawn wr dq) osq = w9 at *
        cases bz
        · go_wp2
          exact ⟨hnx.out _ hA2 (by unfold zkeyB; rw [HBZ.out]; simp), by simp [intOf]; omega⟩
        · go_wp2
          go_ret
          exact ⟨ret_bool (hyes.out (by unfold zkeyB; rw [HBZ.out, HP.out]; rfl)).symm, hA2.out.2.1⟩
      | some pa0 =>
        have hPS := hid hok.out.prins
        have HPn := hid (show x.pp.isNone = false by rw [hpp]; rfl)
        rw [hpp] at k3 hPS
        clear hpp
        obtain ⟨b2, hb2⟩ : ∃ b2, x.prins.any (oneOf who) = b2 := ⟨_, rfl⟩
        have hCA := hid (zzAnyIn_any x.prins who (some pa0) q x.cpp cq wr hok.out.lp hwl (hPS.out.below hAr.out.2.1) (hW.out.below hAr.out.2.1))
        rw [hb2] at hCA
        have HB2 := hid hb2
        clear hb2
        cases b2 with
        | false =>
          go_wp2_with (go_at_call 46; refine hCA.out.mono ?_; rintro e w3 ⟨rfl, hb3⟩)
          exact ⟨hnx.out _ (hid (hAr.out.below hb3)) (by unfold zkeyB; rw [HPn.out, HB2.out]; simp), by simp [intOf]; omega⟩
        | true =>
          go_wp2_with (go_at_call 46; refine hCA.out.mono ?_; rintro e w3 ⟨rfl, hb3⟩)
          have hA3 := hid (hAr.out.below hb3)
          have up3 : ∀ {a : Addr} {v : Value}, wr.cell? a = some v → w3.cell? a = some v := fun {a v} hx => (hb3.cell (block_lt_of_cell hx)).trans hx
          obtain ⟨j0, j1, j2, j4⟩ : _ ∧ _ ∧ _ ∧ _ := ⟨up3 k0.out, up3 k1.out, up3 k2.out, up3 k4.out⟩
          clear up3 k3
          have q0 := cell_regrown j0
          have q1 := cell_regrown j1
          have q2 := cell_regrown j2
          have q4 := cell_regrown j4
          have s0 := cell_regrown hA3.out.1.1
          have s1 := cell_regrown hA3.out.1.2.1
          have s2 := cell_regrown hA3.out.1.2.2.1
          have s3 := cell_regrown hA3.out.1.2.2.2.1
          have s4 := cell_regrown hA3.out.1.2.2.2.2.1
          have s5 := cell_regrown hA3.out.1.2.2.2.2.2.1
          have s6 := cell_regrown hA3.out.1.2.2.2.2.2.2
          have hzz : ∀ d os, Below w.heap.size w (Sort.grow (redrawn w3 d) os) := fun d os => hA3.out.2.1.trans ((below_regrown w3 d os).mono hA3.out.2.1.size)
          obtain ⟨bz, hbz⟩ : ∃ bz, zcovB f r deny false x.deny x.acts x.res x.conds = bz := ⟨_, rfl⟩
          have HBZ := hid hbz
          clear hbz
          go_wp2
          refine wp_region_quiet_below (by kernel_rfl) (by kernel_rfl) ?_
          repeat (first | go_big_quiet_step (exact Calls.regrown_of (zz_is x r f deny false w _ hE hg hok (hzz _ _) HBZ.out)) | quiet_step (exact Calls.regrown_of (zz_is x r f deny false w _ hE hg hok (hzz _ _) HBZ.out)))
          refine wpQuiet_nil ?_
          intro _ hw'
          obtain ⟨⟨dq, osq⟩, hw''⟩ := hw'
          subst hw''
          have hA2 := hid (hA3.out.below (below_regrown w3 dq osq))
          clear q0 q1 q2 q4 s0 s1 s2 s3 s4 s5 s6 hzz
          generalize Sort.grow (redrawn w3 dq) osq = w9 at *
          cases bz
          · go_wp2
            exact ⟨hnx.out _ hA2 (by unfold zkeyB; rw [HBZ.out]; simp), by simp [intOf]; omega⟩
          · go_wp2
            go_ret
            exact ⟨ret_bool (hyes.out (by unfold zkeyB; rw [HBZ.out, (by rw [HB2.out]; simp : (x.pp.isNone || x.prins.any (oneOf who)) = true)]; rfl)).symm, hA2.out.2.1⟩
    · obtain rfl : i = ks.length := by omega
      go_wp2
      go_ret
      exact ⟨ret_bool (any_none ks _ (fun q hq => hno.out q hq hq)).symm, hAr.out.2.1⟩

/-- The slice's address p holds the identity statements ss, four cells each. -/
def IdentAt (W : World) (p : Option Addr) (ss : List SV) : Prop := 0 < ss.length → ∃ b o, p = some ⟨b, o, none⟩ ∧ ∀ (j : Nat) (h : j < ss.length), W.cell? ⟨b, o + j * 4, none⟩ = some (.bool ss[j].deny) ∧ W.cell? ⟨b, o + j * 4 + 1, none⟩ = some (.slice ss[j].pa ss[j].acts.length ss[j].ca) ∧ W.cell? ⟨b, o + j * 4 + 2, none⟩ = some (.slice ss[j].pr ss[j].res.length ss[j].cr) ∧ W.cell? ⟨b, o + j * 4 + 3, none⟩ = some (.slice ss[j].pc ss[j].conds.length ss[j].cc)
theorem IdentAt.below {W W' : World} {p : Option Addr} {ss : List SV} (h : IdentAt W p ss) (hb : Below W.heap.size W W') : IdentAt W' p ss := fun h0 => by
  obtain ⟨b, o, e, hc⟩ := h h0
  have k : ∀ {a : Addr} {v : Value}, W.cell? a = some v → W'.cell? a = some v := fun {a v} hx => (hb.cell (block_lt_of_cell hx)).trans hx
  exact ⟨b, o, e, fun j hj => ⟨k (hc j hj).1, k (hc j hj).2.1, k (hc j hj).2.2.1, k (hc j hj).2.2.2⟩⟩

set_option maxHeartbeats 1600000 in
set_option maxRecDepth 100000 in
theorem zzId_any (ks : List SV) (p : Option Addr) (cp : Nat) (r : Rq) (f : Int → Option (List UInt8)) (deny : Bool) (w : World) (hE : Hid (EnvOk w r f)) (hg : r.digits.size ≤ 1048576) (hl : ks.length ≤ 1048576) (hK : Hid (IdentAt w p ks)) (hO : Hid (∀ s ∈ ks, StmtOk w f s)) :
    Calls Tryd.prog 26 #[.slice p ks.length cp, .agg #[.string r.principal, .string r.account, .string r.action, .string r.resource, .int .i64 r.len, .string r.digits, r.mv], .bool deny] w fun e w' => e = .returned (.bool (ks.any (zidB f r deny))) ∧ Below w.heap.size w w' := by
  have hA := hid (AtR.start w r)
  go_enter Tryd.func26, Tryd.ntmps26
  go_wp2
  go_loopw [7] (fun si wr => ∃ i : Nat, i ≤ ks.length ∧ si = .int .i64 i ∧ Hid (∀ (q : Nat) (hq : q < ks.length), q < i → zidB f r deny ks[q] = false) ∧ Hid (AtR w r wr)) (fun j _ => ks.length - (intOf j).toNat)
  case atStart => exact ⟨0, Nat.zero_le _, rfl, hid (by intro q _ h; omega), hA⟩
  case round =>
    obtain ⟨i, hi, rfl, hno, hAr⟩ := hrel
    by_cases hlt : i < ks.length
    · obtain ⟨bb, o, rfl, hcell⟩ := hK.out (by omega)
      obtain ⟨d0, d1, d2, d3⟩ := hcell i hlt
      have up2 : ∀ {a : Addr} {v : Value}, w.cell? a = some v → wr.cell? a = some v := fun {a v} hx => (hAr.out.2.1.cell (block_lt_of_cell hx)).trans hx
      have q0 := cell_regrown (up2 d0)
      have q1 := cell_regrown (up2 d1)
      have q2 := cell_regrown (up2 d2)
      have q4 := cell_regrown (up2 d3)
      have hok := hid (hO.out ks[i] (List.getElem_mem hlt))
      have hst : Hid (∀ b, zidB f r deny ks[i] = b → (b = true → ks.any (zidB f r deny) = true) ∧ (b = false → ∀ (q : Nat) (hq : q < ks.length), q < i + 1 → zidB f r deny ks[q] = false)) := by
        refine hid (fun b hb => ⟨fun h => any_at ks _ i hlt (hb.trans h), fun h q hq hqi => ?_⟩)
        by_cases e : q = i
        · subst e; exact hb.trans h
        · exact hno.out q hq (by omega)
      have hii : (i : Int) < (ks.length : Int) := by omega
      clear d0 d1 d2 d3 hcell up2
      generalize ks[i] = x at *
      have s0 := cell_regrown hAr.out.1.1
      have s1 := cell_regrown hAr.out.1.2.1
      have s2 := cell_regrown hAr.out.1.2.2.1
      have s3 := cell_regrown hAr.out.1.2.2.2.1
      have s4 := cell_regrown hAr.out.1.2.2.2.2.1
      have s5 := cell_regrown hAr.out.1.2.2.2.2.2.1
      have s6 := cell_regrown hAr.out.1.2.2.2.2.2.2
      have hzz : ∀ d os, Below w.heap.size w (Sort.grow (redrawn wr d) os) := fun d os => hAr.out.2.1.trans ((below_regrown wr d os).mono hAr.out.2.1.size)
      obtain ⟨bz, hbz⟩ : ∃ bz, zcovB f r deny (!deny) x.deny x.acts x.res x.conds = bz := ⟨_, rfl⟩
      have HBZ := hid hbz
      have HST := hid (hst.out bz hbz)
      clear hbz hst
      go_wp2
      refine wp_region_quiet_below (by kernel_rfl) (by kernel_rfl) ?_
      repeat (first | go_big_quiet_step (exact Calls.regrown_of (zz_is x r f deny (!deny) w _ hE hg hok (hzz _ _) HBZ.out)) | quiet_step (exact Calls.regrown_of (zz_is x r f deny (!deny) w _ hE hg hok (hzz _ _) HBZ.out)))
      refine wpQuiet_nil ?_
      intro _ hw'
      obtain ⟨⟨dq, osq⟩, hw''⟩ := hw'
      subst hw''
      have hA2 := hid (hAr.out.below (below_regrown wr dq osq))
      clear q0 q1 q2 q4 s0 s1 s2 s3 s4 s5 s6 hzz
      generalize Sort.grow (redrawn wr dq) osq = w9 at *
      cases bz
      · go_wp2
        exact ⟨⟨i + 1, by omega, by go_num, hid (HST.out.2 (by first | rfl | trivial)), hA2⟩, by simp [intOf]; omega⟩
      · go_wp2
        go_ret
        exact ⟨ret_bool (HST.out.1 (by first | rfl | trivial)).symm, hA2.out.2.1⟩
    · obtain rfl : i = ks.length := by omega
      go_wp2
      go_ret
      exact ⟨ret_bool (any_none ks _ (fun q hq => hno.out q hq hq)).symm, hAr.out.2.1⟩
end Go.Proofs.Qxb6613124aDoor
