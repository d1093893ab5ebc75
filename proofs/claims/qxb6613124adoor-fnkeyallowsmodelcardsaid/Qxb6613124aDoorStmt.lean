/-
  THE WALK of zzStatementCovers (47).
-/
import Derived.Test.Qxb6613124aDoorModel
import Derived.Deep.RegionWith
import Derived.Lib.QuietBelow
namespace Go.Proofs.Qxb6613124aDoor
open Go.RowKit

/-- The resource's test as the model says it. -/
noncomputable def zresB (r : Rq) (deny ex : Bool) (x : ByteArray) : Bool := if ex then (r.len == 0) && (x.toList == r.resource.toList) else resB r.resource r.len r.digits deny x
/-- The statement's cover as the model says it, the principals apart. -/
noncomputable def zcovB (f : Int → Option (List UInt8)) (r : Rq) (deny ex : Bool) (sd : Bool) (acts res : List ByteArray) (conds : List CV) : Bool :=
  (sd == deny) && acts.any (actB r.action) && res.any (zresB r deny ex) && !(conds.any fun v => !holdsB f v.c)

/-- The request's box, and what lay before. -/
def AtR (w : World) (r : Rq) (W : World) : Prop := RqAt W w.heap.size r ∧ Below w.heap.size w W ∧ w.heap.size < W.heap.size
theorem AtR.start (w : World) (r : Rq) : AtR w r (w.alloc (.cells #[.string r.principal, .string r.account, .string r.action, .string r.resource, .int .i64 r.len, .string r.digits, r.mv] 30)) := ⟨RqAt.new w r, (Below.refl _ _).alloc (Nat.le_refl _) _, by simp⟩
theorem AtR.below {w : World} {r : Rq} {W W' : World} (h : AtR w r W) (hb : Below W.heap.size W W') : AtR w r W' := ⟨h.1.below hb, h.2.1.trans (hb.mono h.2.1.size), by have := hb.size; have := h.2.2; omega⟩

theorem act_is (a s : ByteArray) (w : World) {b : Bool} (ha : a.size ≤ 1048576) (hs : s.size ≤ 1048576) (hb : actB s a = b) :
    Calls Tryd.prog 59 #[.string a, .bool true, .string s, .int .i64 0, .string ⟨#[]⟩, .bool false] w fun e w' => e = .returned (.bool b) ∧ Below w.heap.size w w' := by
  subst hb
  exact glob true a s ⟨#[]⟩ false 0 w ha hs (by decide) (by omega) (fun _ => rfl)
theorem res_is (x s : ByteArray) (L : Nat) (g : ByteArray) (deny : Bool) (w : World) {b : Bool} (hx : x.size ≤ 1048576) (hs : s.size ≤ 1048576) (hL : L ≤ 1048576) (hg : g.size ≤ 1048576) (hb : resB s L g deny x = b) :
    Calls Tryd.prog 59 #[.string x, .bool false, .string s, .int .i64 L, .string g, .bool deny] w fun e w' => e = .returned (.bool b) ∧ Below w.heap.size w w' := by
  subst hb
  exact glob false x s g deny L w hx hs hg hL (fun h => by cases h)
theorem zholds_is (c : KC) (p : Option Addr) (cp : Nat) (mv : Value) (f : Int → Option (List UInt8)) (w0 w : World) {b : Bool} (hS : Hid (StrsAt w0 p c.vals)) (hM : Hid (MapAll w0 mv f)) (hc : Hid (CondOk w0 f c)) (hB : Below w0.heap.size w0 w) (hb : holdsB f c = b) :
    Calls Tryd.prog 60 #[.bool c.neg, .bool c.ic, .int .i64 c.pcr, .slice p c.vals.length cp, mv] w fun x w' => x = .returned (.bool b) ∧ Below w.heap.size w w' := by
  subst hb
  exact zzHolds_any c p cp mv f w (hS.out.below hB) (fun W hW => hM.out W (hB.trans (hW.mono hB.size))) ⟨hc.out.vals, hc.out.size, hc.out.key, hc.out.look⟩

theorem any_take_succ {α : Type} (l : List α) (P : α → Bool) (k : Nat) (h : k < l.length) (hno : (l.take k).any P = false) : (l.take (k + 1)).any P = P l[k] := by
  rw [List.take_succ_eq_append_getElem h, List.any_append, hno]
  simp
theorem any_take_all {α : Type} (l : List α) (P : α → Bool) (k : Nat) (b : Bool) (h : (l.take k).any P = b) (hk : b = true ∨ k = l.length) : l.any P = b := by
  rcases hk with rfl | rfl
  · obtain ⟨x, hx, hm⟩ := List.any_eq_true.1 h
    exact List.any_eq_true.2 ⟨x, List.mem_of_mem_take hx, hm⟩
  · rwa [List.take_of_length_le (Nat.le_refl _)] at h

/-- What is known of the statement's parts. -/
structure PartsOk (w : World) (f : Int → Option (List UInt8)) (acts res : List ByteArray) (conds : List CV) (pa pr pc : Option Addr) : Prop where
  hacts : StrsAt w pa acts
  hres : StrsAt w pr res
  hconds : CondsAt w pc conds
  hvals : ∀ v ∈ conds, StrsAt w v.p v.c.vals
  hok : ∀ v ∈ conds, CondOk w f v.c
  hla : acts.length ≤ 1048576
  hlr : res.length ≤ 1048576
  hlc : conds.length ≤ 1048576
  hza : ∀ a ∈ acts, a.size ≤ 1048576
  hzr : ∀ a ∈ res, a.size ≤ 1048576

set_option maxHeartbeats 1600000 in
set_option maxRecDepth 100000 in
theorem zzStmt3 (sd : Bool) (acts res : List ByteArray) (conds : List CV) (pa pr pc : Option Addr) (ca cr cc : Nat) (r : Rq) (f : Int → Option (List UInt8)) (deny ex : Bool) (w : World) (hE : Hid (EnvOk w r f)) (hg : r.digits.size ≤ 1048576) (hP : Hid (PartsOk w f acts res conds pa pr pc)) :
    Calls Tryd.prog 47 #[.bool sd, .slice pa acts.length ca, .slice pr res.length cr, .slice pc conds.length cc, .agg #[.string r.principal, .string r.account, .string r.action, .string r.resource, .int .i64 r.len, .string r.digits, r.mv], .bool deny, .bool ex] w fun e w' => e = .returned (.bool (zcovB f r deny ex sd acts res conds)) ∧ Below w.heap.size w w' := by
  have hA := hid (AtR.start w r)
  cases hsd : (sd == deny) with
  | false =>
    have HE1 := hid (show zcovB f r deny ex sd acts res conds = false by unfold zcovB; rw [hsd]; simp)
    have hne : (sd != deny) = true := by simp [bne, hsd]
    go_enter Tryd.func47, Tryd.ntmps47
    go_wp2
    go_ret
    exact ⟨ret_bool HE1.out.symm, hA.out.2.1⟩
  | true =>
    have HE1 := hid (show ∀ b3 b4 b5, acts.any (actB r.action) = b3 → res.any (zresB r deny ex) = b4 → (conds.any fun v => !holdsB f v.c) = b5 → zcovB f r deny ex sd acts res conds = (b3 && b4 && !b5) by intro b3 b4 b5 h3 h4 h5; unfold zcovB; rw [hsd, h3, h4, h5]; simp)
    have hne : (sd != deny) = false := by simp [bne, hsd]
    have hal := hP.out.hla
    go_enter Tryd.func47, Tryd.ntmps47
    go_wp2
    go_loopw [15, 16] (fun s15 si wr => ∃ (k : Nat) (b : Bool), k ≤ acts.length ∧ si = .int .i64 k ∧ s15 = .bool b ∧ Hid ((acts.take k).any (actB r.action) = b) ∧ Hid (AtR w r wr)) (fun _ j _ => acts.length - (intOf j).toNat)
    case atStart => exact ⟨0, false, Nat.zero_le _, rfl, rfl, hid (by simp), hA⟩
    case round =>
      obtain ⟨k, b, hk, rfl, rfl, hany, hAr⟩ := hrel
      by_cases hgo : b = false ∧ k < acts.length
      · obtain ⟨rfl, hlt⟩ := hgo
        obtain ⟨bb, o, rfl, hcell⟩ := hP.out.hacts (by omega)
        have hck := (hAr.out.2.1.cell (p := ⟨bb, o + k, none⟩) (block_lt_of_cell (hcell k hlt))).trans (hcell k hlt)
        have hst := hid (any_take_succ acts (actB r.action) k hlt hany.out)
        have hxs := hP.out.hza acts[k] (List.getElem_mem hlt)
        generalize acts[k] = x at *
        clear hcell
        obtain ⟨bv, hbv⟩ : ∃ bv, actB r.action x = bv := ⟨_, rfl⟩
        have HBV := hid hbv
        clear hbv
        have q0 := cell_regrown hck
        have q1 := cell_regrown hAr.out.1.2.2.1
        have hii : (k : Int) < (acts.length : Int) := by omega
        clear hck
        go_wp2
        refine wp_region_quiet_below (by kernel_rfl) (by kernel_rfl) ?_
        repeat (first | go_big_quiet_step (exact Calls.regrown_of (act_is _ _ _ hxs hE.out.za HBV.out)) | quiet_step (exact Calls.regrown_of (act_is _ _ _ hxs hE.out.za HBV.out)))
        refine wpQuiet_nil ?_
        intro _ hw'
        obtain ⟨⟨dq, osq⟩, hw''⟩ := hw'
        subst hw''
        have hA2 := hid (hAr.out.below (below_regrown wr dq osq))
        clear q0 q1
        generalize Sort.grow (redrawn wr dq) osq = w2 at *
        go_wp2
        exact ⟨⟨k + 1, bv, by omega, by go_num, rfl, hid (hst.out.trans HBV.out), hA2⟩, by simp [intOf]; omega⟩
      · have hkb : b = true ∨ k = acts.length := by
          cases b with
          | true => exact .inl rfl
          | false => exact .inr (by have : ¬ k < acts.length := fun h => hgo ⟨rfl, h⟩; omega)
        have HA3 := hid (any_take_all acts (actB r.action) k b hany.out hkb)
        cases b with
        | false =>
          obtain rfl : k = acts.length := by rcases hkb with h | h; cases h; exact h
          go_wp2
          go_ret
          exact ⟨ret_bool (by rw [HE1.out false _ _ HA3.out rfl rfl]; rfl), hAr.out.2.1⟩
        | true =>
          have hlr := hP.out.hlr
          by_cases hlt : (k : Int) < (acts.length : Int)
          all_goals
            go_wp2
            go_loopw [17, 18] (fun s17 si wr => ∃ (k : Nat) (b : Bool), k ≤ res.length ∧ si = .int .i64 k ∧ s17 = .bool b ∧ Hid ((res.take k).any (zresB r deny ex) = b) ∧ Hid (AtR w r wr)) (fun _ j _ => res.length - (intOf j).toNat)
            case atStart => exact ⟨0, false, Nat.zero_le _, rfl, rfl, hid (by simp), hAr⟩
            case round =>
              obtain ⟨k, b, hk, rfl, rfl, hany, hAr⟩ := hrel
              by_cases hgo : b = false ∧ k < res.length
              · obtain ⟨rfl, hlt⟩ := hgo
                obtain ⟨bb, o, rfl, hcell⟩ := hP.out.hres (by omega)
                have hck := (hAr.out.2.1.cell (p := ⟨bb, o + k, none⟩) (block_lt_of_cell (hcell k hlt))).trans (hcell k hlt)
                have hst := hid (any_take_succ res (zresB r deny ex) k hlt hany.out)
                have hxs := hP.out.hzr res[k] (List.getElem_mem hlt)
                generalize res[k] = x at *
                clear hcell
                have q0 := cell_regrown hck
                have q3 := cell_regrown hAr.out.1.2.2.2.1
                have q4 := cell_regrown hAr.out.1.2.2.2.2.1
                have q5 := cell_regrown hAr.out.1.2.2.2.2.2.1
                have hii : (k : Int) < (res.length : Int) := by omega
                clear hck
                cases ex with
                | true =>
                  by_cases hz0 : r.len = 0
                  · have hzb : ((r.len : Int) == 0) = true := beq_iff_eq.2 (by omega)
                    have HV := hid (show zresB r deny true x = (x.toList == r.resource.toList) by unfold zresB; rw [if_pos rfl, hz0]; simp)
                    obtain ⟨bx, hbx⟩ : ∃ bx, (x.toList == r.resource.toList) = bx := ⟨_, rfl⟩
                    rw [hbx] at HV
                    go_wp2
                    refine wp_region_quiet_below (by kernel_rfl) (by kernel_rfl) ?_
                    repeat (first | go_big_quiet_step (fail) | quiet_step (fail))
                    refine wpQuiet_nil ?_
                    intro _ hw'
                    obtain ⟨⟨dq, osq⟩, hw''⟩ := hw'
                    subst hw''
                    have hA2 := hid (hAr.out.below (below_regrown wr dq osq))
                    clear q0 q3 q4 q5
                    generalize Sort.grow (redrawn wr dq) osq = w2 at *
                    go_wp2
                    exact ⟨⟨k + 1, bx, by omega, by go_num, rfl, hid (hst.out.trans HV.out), hA2⟩, by simp [intOf]; omega⟩
                  · have hzb : ((r.len : Int) == 0) = false := beq_eq_false_iff_ne.2 (by omega)
                    have HV := hid (show zresB r deny true x = false by unfold zresB; rw [if_pos rfl, beq_eq_false_iff_ne.2 hz0]; simp)
                    go_wp2
                    refine wp_region_quiet_below (by kernel_rfl) (by kernel_rfl) ?_
                    repeat (first | go_big_quiet_step (fail) | quiet_step (fail))
                    refine wpQuiet_nil ?_
                    intro _ hw'
                    obtain ⟨⟨dq, osq⟩, hw''⟩ := hw'
                    subst hw''
                    have hA2 := hid (hAr.out.below (below_regrown wr dq osq))
                    clear q0 q3 q4 q5
                    generalize Sort.grow (redrawn wr dq) osq = w2 at *
                    go_wp2
                    exact ⟨⟨k + 1, false, by omega, by go_num, rfl, hid (hst.out.trans HV.out), hA2⟩, by simp [intOf]; omega⟩
                | false =>
                  obtain ⟨bv, hbv⟩ : ∃ bv, resB r.resource r.len r.digits deny x = bv := ⟨_, rfl⟩
                  have HBV := hid hbv
                  have HV := hid (show zresB r deny false x = bv by unfold zresB; rw [if_neg (by simp), hbv])
                  clear hbv
                  go_wp2
                  refine wp_region_quiet_below (by kernel_rfl) (by kernel_rfl) ?_
                  repeat (first | go_big_quiet_step (exact Calls.regrown_of (res_is _ _ _ _ _ _ hxs hE.out.zr hE.out.zl hg HBV.out)) | quiet_step (exact Calls.regrown_of (res_is _ _ _ _ _ _ hxs hE.out.zr hE.out.zl hg HBV.out)))
                  refine wpQuiet_nil ?_
                  intro _ hw'
                  obtain ⟨⟨dq, osq⟩, hw''⟩ := hw'
                  subst hw''
                  have hA2 := hid (hAr.out.below (below_regrown wr dq osq))
                  clear q0 q3 q4 q5
                  generalize Sort.grow (redrawn wr dq) osq = w2 at *
                  go_wp2
                  exact ⟨⟨k + 1, bv, by omega, by go_num, rfl, hid (hst.out.trans HV.out), hA2⟩, by simp [intOf]; omega⟩
              · have hkb : b = true ∨ k = res.length := by
                  cases b with
                  | true => exact .inl rfl
                  | false => exact .inr (by have : ¬ k < res.length := fun h => hgo ⟨rfl, h⟩; omega)
                have HA4 := hid (any_take_all res (zresB r deny ex) k b hany.out hkb)
                cases b with
                | false =>
                  obtain rfl : k = res.length := by rcases hkb with h | h; cases h; exact h
                  go_wp2
                  go_ret
                  exact ⟨ret_bool (by rw [HE1.out true false _ HA3.out HA4.out rfl]; rfl), hAr.out.2.1⟩
                | true =>
                  have hlc := hP.out.hlc
                  by_cases hlt : (k : Int) < (res.length : Int)
                  all_goals
                    go_wp2
                    go_loopw [19] (fun sj wr => ∃ j : Nat, j ≤ conds.length ∧ sj = .int .i64 j ∧ Hid (∀ (q : Nat) (hq : q < conds.length), q < j → (!holdsB f conds[q].c) = false) ∧ Hid (AtR w r wr)) (fun j _ => conds.length - (intOf j).toNat)
                    case atStart => exact ⟨0, Nat.zero_le _, rfl, hid (by intro q _ h; omega), hAr⟩
                    case round =>
                      obtain ⟨j, hj, rfl, hall, hAr⟩ := hrel
                      by_cases hlt : j < conds.length
                      · obtain ⟨bb, o, rfl, hcell⟩ := hP.out.hconds (by omega)
                        obtain ⟨d0, d1, d2, d3⟩ := hcell j hlt
                        have up2 : ∀ {a : Addr} {v : Value}, w.cell? a = some v → wr.cell? a = some v := fun {a v} hx => (hAr.out.2.1.cell (block_lt_of_cell hx)).trans hx
                        have q0 := cell_regrown (up2 d0)
                        have q1 := cell_regrown (up2 d1)
                        have q2 := cell_regrown (up2 d2)
                        have q3 := cell_regrown (up2 d3)
                        have q4 := cell_regrown hAr.out.1.2.2.2.2.2.2
                        clear d0 d1 d2 d3 hcell up2
                        have hii : (j : Int) < (conds.length : Int) := by omega
                        have hvs := hid (hP.out.hvals conds[j] (List.getElem_mem hlt))
                        have hok := hid (hP.out.hok conds[j] (List.getElem_mem hlt))
                        obtain ⟨x, hx⟩ : ∃ x, conds[j] = x := ⟨_, rfl⟩
                        rw [hx] at hvs hok q0 q1 q2 q3
                        have HX := hid hx
                        clear hx
                        obtain ⟨bv, hbv⟩ : ∃ bv, holdsB f x.c = bv := ⟨_, rfl⟩
                        have HBV := hid hbv
                        clear hbv
                        have hzz : ∀ d os, Below w.heap.size w (Sort.grow (redrawn wr d) os) := fun d os => hAr.out.2.1.trans ((below_regrown wr d os).mono hAr.out.2.1.size)
                        go_wp2
                        refine wp_region_quiet_below (by kernel_rfl) (by kernel_rfl) ?_
                        repeat (first | go_big_quiet_step (exact Calls.regrown_of (zholds_is x.c x.p x.cp r.mv f w _ hvs hE.out.map hok (hzz _ _) HBV.out)) | quiet_step (exact Calls.regrown_of (zholds_is x.c x.p x.cp r.mv f w _ hvs hE.out.map hok (hzz _ _) HBV.out)))
                        refine wpQuiet_nil ?_
                        intro _ hw'
                        obtain ⟨⟨dq, osq⟩, hw''⟩ := hw'
                        subst hw''
                        have hA2 := hid (hAr.out.below (below_regrown wr dq osq))
                        clear q0 q1 q2 q3 q4
                        generalize Sort.grow (redrawn wr dq) osq = w2 at *
                        cases bv
                        · go_wp2
                          go_ret
                          exact ⟨ret_bool (by rw [HE1.out true true true HA3.out HA4.out (any_at conds _ j hlt (by rw [HX.out, HBV.out]; rfl))]; rfl), hA2.out.2.1⟩
                        · go_wp2
                          refine ⟨⟨j + 1, by omega, by go_num, hid ?_, hA2⟩, by simp [intOf]; omega⟩
                          intro q hq hqj
                          by_cases e : q = j
                          · subst e; rw [HX.out, HBV.out]; rfl
                          · exact hall.out q hq (by omega)
                      · obtain rfl : j = conds.length := by omega
                        go_wp2
                        go_ret
                        exact ⟨ret_bool (by rw [HE1.out true true false HA3.out HA4.out (any_none conds _ (fun q hq => hall.out q hq hq))]; rfl), hAr.out.2.1⟩
end Go.Proofs.Qxb6613124aDoor
