/-
  THE WALK of FnKeyAllowsModel (3), where the resource's length isn't negative.
-/
import Derived.Test.Qxb6613124aDoorLaw
namespace Go.Proofs.Qxb6613124aDoor
open Go.RowKit

theorem RqAt.cells {W : World} {B : Nat} {r : Rq} (h : RqAt W B r) : W.cell? ⟨B, 0, none⟩ = some (.string r.principal) ∧ W.cell? ⟨B, 1, none⟩ = some (.string r.account) ∧ W.cell? ⟨B, 2, none⟩ = some (.string r.action) ∧ W.cell? ⟨B, 3, none⟩ = some (.string r.resource) ∧ W.cell? ⟨B, 4, none⟩ = some (.int .i64 r.len) ∧ W.cell? ⟨B, 5, none⟩ = some (.string r.digits) ∧ W.cell? ⟨B, 6, none⟩ = some r.mv := h

set_option maxHeartbeats 16000000 in
set_option maxRecDepth 100000 in
theorem law_pos (ks gs : List SV) (pk pg : Option Addr) (ck cg : Nat) (r : Rq) (f : Int → Option (List UInt8)) (L : Nat) (w : World) (hL : Hid (∀ W, Below w.heap.size w W → (Builtin.len_ #[26] 3 #[r.mv]).run Tryd.prog W = .ok (.int .i64 (L : Int)) W)) (hM : Hid (MapAll w r.mv f)) (hT1 : Hid (Cases w)) (hT2 : Hid (FoldTab w))
    (hK : Hid (StmtsAt w pk ks)) (hG : Hid (IdentAt w pg gs)) (hKR : Hid (∀ s ∈ ks, Raw w r.mv f s)) (hGR : Hid (∀ s ∈ gs, Raw w r.mv f s)) (hKN : Hid (∀ s ∈ ks, Nils s)) (hGN : Hid (∀ s ∈ gs, Nils s)) (hgp : Hid (∀ s ∈ gs, s.pp = none)) (hgn : Hid (pg = none → gs = [])) :
    Calls Tryd.prog 3 #[.slice pk ks.length ck, .slice pg gs.length cg, .agg #[.string r.principal, .string r.account, .string r.action, .string r.resource, .int .i64 r.len, .string r.digits, r.mv]] w fun e w' => e = .returned (.bool true) ∧ Below w.heap.size w w' := by
  have hB := hid ((Below.refl w.heap.size w).alloc (Nat.le_refl _) (.cells #[.string r.principal, .string r.account, .string r.action, .string r.resource, .int .i64 r.len, .string r.digits, r.mv] 30))
  have hR := hid (RqAt.new w r)
  have hnil := fun (a : Option Addr) (l c : Nat) (w : World) => run_neq_slice_nil (P := Tryd.prog) w 23 45 a l c Tryd.underlying23
  go_enter Tryd.func3, Tryd.ntmps3
  go_wp2_with fail
  generalize w.alloc (.cells #[.string r.principal, .string r.account, .string r.action, .string r.resource, .int .i64 r.len, .string r.digits, r.mv] 30) = W1 at hR hB ⊢
  refine (allSize ks gs pk pg ck cg r r.len f L W1 (hid (fun W hb => hL.out W (hB.out.trans (hb.mono hB.out.size)))) (hid (fun W hb => hM.out W (hB.out.trans (hb.mono hB.out.size)))) (hid (hK.out.below hB.out)) (hid (hG.out.below hB.out)) (hid (fun s hs => (hKR.out s hs).below hB.out)) (hid (fun s hs => (hGR.out s hs).below hB.out))).mono ?_
  rintro e W2 ⟨⟨m, rfl, hm, hP⟩, hb2⟩
  have hR2 := hR.out.below hb2
  obtain ⟨c0, c1, c2, c3, c4, c5, c6⟩ := hR2
  by_cases hm1 : m ≤ 1048576
  · by_cases hlen : r.len ≤ 1048576
    · obtain ⟨_, hRq, hkl, hgl, hKS, hGS⟩ := hP hm1
      have hW2 := hid (hB.out.trans (hb2.mono hB.out.size))
      have hR2 := hid (hR.out.below hb2)
      have hKC : Hid (∀ s ∈ ks, Can w f s) := hid (fun s hs => can_of (hKR.out s hs) (hKN.out s hs) (hKS s hs).1 (hKS s hs).2.1 (hKS s hs).2.2.1 (hKS s hs).2.2.2)
      have hGC : Hid (∀ s ∈ gs, Can w f s) := hid (fun s hs => can_of (hGR.out s hs) (hGN.out s hs) (hGS s hs).1 (hGS s hs).2.1 (by rw [(hGN.out s hs).np (hgp.out s hs)]; exact ⟨by simp, by simp⟩) (hGS s hs).2.2)
      have hEnv : Hid (EnvOk w r f) := hid ⟨hT1.out, hT2.out, hM.out, hRq.2.2.1, hRq.2.2.2.1, hlen⟩
      have hdig := hRq.2.2.2.2
      clear hP hRq hKS hGS hL hKR hGR hKN hGN hT1 hT2 hb2 hB hR hM
      have hmk := fun w => make_stmts ks.length hkl w
      go_wp2
      clear hmk c0 c1 c2 c3 c4 c5 c6
      go_loopw [8] (fun sj wr => ∃ k : Nat, k ≤ ks.length ∧ sj = .int .i64 k ∧ Hid (RowT W2 ks.length ks k wr)) (fun j _ => ks.length - (intOf j).toNat)
      case atStart => exact ⟨0, Nat.zero_le _, rfl, hid (RowT.start W2 ks.length ks)⟩
      case round =>
        obtain ⟨k, hk, rfl, hrel⟩ := hrel
        by_cases hlt : k < ks.length
        · have hB3 := hrel.out.grown
          have hBr : Below w.heap.size w wr := hW2.out.trans (hB3.mono hW2.out.size)
          obtain ⟨x, hx⟩ : ∃ x, ks[k] = x := ⟨_, rfl⟩
          have HX := hid hx
          have hcan := hKC.out ks[k] (List.getElem_mem hlt)
          rw [hx] at hcan
          have hsa := hid (hcan.sa.below hBr)
          have hsr := hid (hcan.sr.below hBr)
          have hsp := hid (hcan.sp.below hBr)
          have hsc := hid (hcan.sc.below hBr)
          obtain ⟨b, o, hae, _⟩ := hK.out (by omega)
          obtain rfl := hae
          obtain ⟨hsrc, hblt⟩ := hK.out.src hlt hx hBr
          have hGk := hid hsrc
          have hbw : W2.heap.size ≠ b := fun e => by have := hW2.out.size; omega
          have hbw' : b ≠ W2.heap.size := fun e => hbw e.symm
          have hB0 := hid (BaseT.start hrel.out)
          have hA0 : Hid (At (fun _ => True) wr.drew) := hid (fun _ _ => trivial)
          obtain ⟨s0, s1, s2, s3, s4⟩ := hsrc wr (Below.refl _ _)
          have hkz : (k : Int) < (ks.length : Int) := by omega
          clear hcan hsrc hx hB3 hBr hblt hrel hKC hGC hEnv hK hG hW2 hR2 hdig hgp hgn
          go_wp2
          go_region_held3 (fun W => W.cell? ⟨b, o + k * 5, none⟩ = some (.bool x.deny) ∧ W.cell? ⟨b, o + k * 5 + 1, none⟩ = some (.slice x.pa x.acts.length x.ca) ∧ W.cell? ⟨b, o + k * 5 + 2, none⟩ = some (.slice x.pr x.res.length x.cr) ∧ W.cell? ⟨b, o + k * 5 + 3, none⟩ = some (.slice x.pp x.prins.length x.cpp) ∧ W.cell? ⟨b, o + k * 5 + 4, none⟩ = some (.slice x.pc x.conds.length x.cc)) (first | with_reducible exact Src5.cells hS6 | with_reducible exact Src5.cells hS5 | go_keep) ((first | (go_at_call 7; refine (clone_arm hGk.out (by assumption) (by assumption) (by assumption)).mono ?_; rintro e w5 ⟨q, cq, rfl, hB5, hA5, hS5⟩) | (go_at_call 8; refine (conds_arm hGk.out (by assumption) (by assumption) (by assumption)).mono ?_; rintro e w5 ⟨q, cq, vs, rfl, hB5, hA5, hS5⟩) | (go_at_call 6; refine (stmt_arm hGk.out hlt (by assumption) (by assumption)).mono ?_; rintro e w6 ⟨rfl, hB6, hA6, hS6, v0, v1, v2, v3, v4, e0, e1, e2, e3, e4, z0, z1, z2, z3, z4⟩)))
          go_wp2
          refine ⟨⟨k + 1, by omega, by go_num, hid ?_⟩, by simp [intOf]; omega⟩
          obtain ⟨⟨⟨⟨_, h1⟩, h2⟩, h3⟩, h4⟩ := hA6.out.now
          exact RowT.clone hB6.out hlt HX.out h1 h2 h3 h4
        · obtain rfl : k = ks.length := by omega
          have hlt' : ¬ ((ks.length : Int) < ks.length) := by omega
          obtain ⟨vs, hvs⟩ := hrel.out.made
          have hMd := hid hvs
          have hW3 : Hid (Below w.heap.size w wr) := by
            obtain ⟨_, _, _, _, _, _, _, h⟩ := hrel.out
            exact hid (hW2.out.trans (h.mono hW2.out.size))
          have hR3 : Hid (RqAt wr w.heap.size r) := by
            obtain ⟨_, _, _, _, _, _, _, h⟩ := hrel.out
            exact hid (hR2.out.below h)
          clear hvs hrel hlt
          cases pg with
          | none =>
            obtain rfl := hgn.out rfl
            obtain ⟨g, hg1, hg2⟩ := same_answer (f := f) (r := r) hMd.out (made_nil wr) hgp.out
            have hC10 := hid (keyAllows_at (V := wr.drew) (ip := .pointer none) (cg := 0) hEnv.out hW3.out ((Below.refl _ _).drew) hR3.out hkl hgl rfl hMd.out (made_nil wr) hKC.out hGC.out (fun U _ => list_nil U) hg1)
            have hC12 : Hid (∀ U, Below w.heap.size w U → Calls Tryd.prog 12 #[.slice pk ks.length ck, .slice none 0 cg, .agg #[.string r.principal, .string r.account, .string r.action, .string r.resource, .int .i64 r.len, .string r.digits, r.mv]] U fun e w' => e = .returned (.bool g) ∧ Below w.heap.size w w') := hid (fun U hU => zmodel_at (gs := []) hEnv.out hU hdig hkl hgl hK.out hG.out hKC.out hGC.out hg2)
            obtain ⟨c0, c1, c2, c3, c4, c5, c6⟩ := hR3.out
            clear hg1 hg2 hMd hKC hGC hEnv hK hG hW2 hW3 hR2 hR3 hdig hgp hgn
            go_wp2
            go_region_held3 (fun W => W.cell? ⟨w.heap.size, 0, none⟩ = some (.string r.principal) ∧ W.cell? ⟨w.heap.size, 1, none⟩ = some (.string r.account) ∧ W.cell? ⟨w.heap.size, 2, none⟩ = some (.string r.action) ∧ W.cell? ⟨w.heap.size, 3, none⟩ = some (.string r.resource) ∧ W.cell? ⟨w.heap.size, 4, none⟩ = some (.int .i64 r.len) ∧ W.cell? ⟨w.heap.size, 5, none⟩ = some (.string r.digits) ∧ W.cell? ⟨w.heap.size, 6, none⟩ = some r.mv) (first | with_reducible exact RqAt.cells hR6.out | go_keep) ((first | (go_at_call 11; refine (zzkp _ _ _ _).mono ?_; rintro e w5 ⟨rfl, rfl⟩) | (go_at_call 10; refine hC10.out.mono ?_; rintro e w6 ⟨rfl, hB6, hR6⟩)))
            obtain ⟨d0, d1, d2, d3, d4, d5, d6⟩ := hR6.out
            go_wp2_with (go_at_call 12; refine (hC12.out _ hB6.out).mono ?_; rintro e w7 ⟨rfl, hB7⟩)
            go_ret
            exact ⟨rfl, hB7⟩
          | some a =>
            have hmk := fun w => make_stmts gs.length hgl w
            rename World => W3
            go_wp2
            clear hmk
            go_loopw [11] (fun sj wx => ∃ k : Nat, k ≤ gs.length ∧ sj = .int .i64 k ∧ Hid (RowT W3 gs.length gs k wx)) (fun j _ => gs.length - (intOf j).toNat)
            case atStart => exact ⟨0, Nat.zero_le _, rfl, hid (RowT.start W3 gs.length gs)⟩
            case round =>
              obtain ⟨k, hk, rfl, hrel⟩ := hrel
              by_cases hlt : k < gs.length
              · have hB3 := hrel.out.grown
                have hBr : Below w.heap.size w wr := hW3.out.trans (hB3.mono hW3.out.size)
                obtain ⟨x, hx⟩ : ∃ x, gs[k] = x := ⟨_, rfl⟩
                have HX := hid hx
                have hcan := hGC.out gs[k] (List.getElem_mem hlt)
                have hxp := hgp.out gs[k] (List.getElem_mem hlt)
                rw [hx] at hcan hxp
                have hsa := hid (hcan.sa.below hBr)
                have hsr := hid (hcan.sr.below hBr)
                have hsc := hid (hcan.sc.below hBr)
                have hxe := hid (hcan.sp.2.2 hxp)
                have HXP := hid hxp
                obtain ⟨b, o, hae, _⟩ := hG.out (by omega)
                obtain rfl := Option.some.inj hae
                clear hae
                obtain ⟨hsrc, hblt⟩ := hG.out.src hlt hx hBr
                have hGk := hid hsrc
                have hbw : W3.heap.size ≠ b := fun e => by have := hW3.out.size; omega
                have hbw' : b ≠ W3.heap.size := fun e => hbw e.symm
                have hB0 := hid (BaseT.start hrel.out)
                have hA0 : Hid (At (fun _ => True) wr.drew) := hid (fun _ _ => trivial)
                obtain ⟨s0, s1, s2, s3⟩ := hsrc wr (Below.refl _ _)
                have hkz : (k : Int) < (gs.length : Int) := by omega
                clear hcan hxp hsrc hx hB3 hBr hblt hrel hMd hKC hGC hEnv hK hG hW2 hW3 hR2 hR3 hdig hgp hgn
                go_wp2
                go_region_held3 (fun W => W.cell? ⟨b, o + k * 4, none⟩ = some (.bool x.deny) ∧ W.cell? ⟨b, o + k * 4 + 1, none⟩ = some (.slice x.pa x.acts.length x.ca) ∧ W.cell? ⟨b, o + k * 4 + 2, none⟩ = some (.slice x.pr x.res.length x.cr) ∧ W.cell? ⟨b, o + k * 4 + 3, none⟩ = some (.slice x.pc x.conds.length x.cc)) (first | with_reducible exact Src4.cells hS6 | with_reducible exact Src4.cells hS5 | go_keep) ((first | (go_at_call 7; refine (clone_arm hGk.out (by assumption) (by assumption) (by assumption)).mono ?_; rintro e w5 ⟨q, cq, rfl, hB5, hA5, hS5⟩) | (go_at_call 8; refine (conds_arm hGk.out (by assumption) (by assumption) (by assumption)).mono ?_; rintro e w5 ⟨q, cq, vs, rfl, hB5, hA5, hS5⟩) | (go_at_call 6; refine (stmt_arm hGk.out hlt (by assumption) (by assumption)).mono ?_; rintro e w6 ⟨rfl, hB6, hA6, hS6, v0, v1, v2, v3, v4, e0, e1, e2, e3, e4, z0, z1, z2, z3, z4⟩)))
                go_wp2
                refine ⟨⟨k + 1, by omega, by go_num, hid ?_⟩, by simp [intOf]; omega⟩
                obtain ⟨⟨⟨_, h1⟩, h2⟩, h4⟩ := hA6.out.now
                exact RowT.cloneI hB6.out hlt HX.out HXP.out hxe.out h1 h2 h4
              · obtain rfl : k = gs.length := by omega
                have hlt'' : ¬ ((gs.length : Int) < gs.length) := by omega
                obtain ⟨us, hus⟩ := hrel.out.made
                have hB3 := hrel.out.grown
                have hb9 : Below wr.heap.size wr (wr.alloc (.cells #[.slice (some ⟨W3.heap.size, 0, none⟩) gs.length gs.length] 68)) := (Below.refl _ _).alloc (Nat.le_refl _) _
                have hB4 := hB3.trans (hb9.mono hB3.size)
                have hW4 := hW3.out.trans (hB4.mono hW3.out.size)
                have hMd4 := hMd.out.below hB4
                have hMu4 := hus.below hb9
                have hR4 := hR3.out.below hB4
                have hcl : (wr.alloc (.cells #[.slice (some ⟨W3.heap.size, 0, none⟩) gs.length gs.length] 68)).cell? ⟨wr.heap.size, 0, none⟩ = some (.slice (some ⟨W3.heap.size, 0, none⟩) us.length gs.length) := by rw [hus.1]; exact new_cell wr _ 68 0 (by simp)
                have hzl : (wr.alloc (.cells #[.slice (some ⟨W3.heap.size, 0, none⟩) gs.length gs.length] 68)).heap.size = wr.heap.size + 1 := by simp
                clear hb9 hB4
                go_wp2_with (go_at_call 9; refine (zzip _ _ _ _).mono ?_; rintro e w5 ⟨rfl, rfl⟩)
                generalize wr.alloc (.cells #[.slice (some ⟨W3.heap.size, 0, none⟩) gs.length gs.length] 68) = W4 at hW4 hMd4 hMu4 hR4 hcl hzl ⊢
                obtain ⟨g, hg1, hg2⟩ := same_answer (f := f) (r := r) hMd4 hMu4 hgp.out
                have hC10 := hid (keyAllows_at (V := W4.drew) (ip := .pointer (some ⟨wr.heap.size, 0, none⟩)) (cg := gs.length) hEnv.out hW4 ((Below.refl _ _).drew) hR4 hkl hgl rfl hMd4 hMu4 hKC.out hGC.out (fun U hU => list_some wr.heap.size _ U ((hU.cell (block_lt_of_cell hcl)).trans hcl)) hg1)
                have hC12 : Hid (∀ U, Below w.heap.size w U → Calls Tryd.prog 12 #[.slice pk ks.length ck, .slice (some a) gs.length cg, .agg #[.string r.principal, .string r.account, .string r.action, .string r.resource, .int .i64 r.len, .string r.digits, r.mv]] U fun e w' => e = .returned (.bool g) ∧ Below w.heap.size w w') := hid (fun U hU => zmodel_at hEnv.out hU hdig hkl hgl hK.out hG.out hKC.out hGC.out hg2)
                obtain ⟨c0, c1, c2, c3, c4, c5, c6⟩ := hR4
                clear hg1 hg2 hMd hKC hGC hEnv hK hG hW2 hW3 hR2 hR3 hdig hgp hgn hMd4 hMu4 hW4 hcl hzl hrel hus hB3
                go_region_held3 (fun W => W.cell? ⟨w.heap.size, 0, none⟩ = some (.string r.principal) ∧ W.cell? ⟨w.heap.size, 1, none⟩ = some (.string r.account) ∧ W.cell? ⟨w.heap.size, 2, none⟩ = some (.string r.action) ∧ W.cell? ⟨w.heap.size, 3, none⟩ = some (.string r.resource) ∧ W.cell? ⟨w.heap.size, 4, none⟩ = some (.int .i64 r.len) ∧ W.cell? ⟨w.heap.size, 5, none⟩ = some (.string r.digits) ∧ W.cell? ⟨w.heap.size, 6, none⟩ = some r.mv) (first | with_reducible exact RqAt.cells hR6.out | go_keep) ((first | (go_at_call 11; refine (zzkp _ _ _ _).mono ?_; rintro e w5 ⟨rfl, rfl⟩) | (go_at_call 10; refine hC10.out.mono ?_; rintro e w6 ⟨rfl, hB6, hR6⟩)))
                obtain ⟨d0, d1, d2, d3, d4, d5, d6⟩ := hR6.out
                go_wp2_with (go_at_call 12; refine (hC12.out _ hB6.out).mono ?_; rintro e w7 ⟨rfl, hB7⟩)
                go_ret
                exact ⟨rfl, hB7⟩
    · have hl' : ¬ ((r.len : Int) ≤ 1048576) := by omega
      go_wp2
      go_ret
      exact ⟨rfl, hB.out.trans (hb2.mono hB.out.size)⟩
  · have hl' : ¬ ((m : Int) ≤ 1048576) := by omega
    go_wp2
    go_ret
    exact ⟨rfl, hB.out.trans (hb2.mono hB.out.size)⟩
end Go.Proofs.Qxb6613124aDoor
