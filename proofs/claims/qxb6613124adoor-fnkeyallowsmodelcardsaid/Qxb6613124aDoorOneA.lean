/-
  THE WALK of wildcardMatch: one star in the pattern.
-/
import Derived.Test.Qxb6613124aDoorHeldA
namespace Go.Proofs.Qxb6613124aDoor
open Go.RowKit Go.Shelf
attribute [local go_sem] Oper.semAt_some

set_option maxHeartbeats 800000 in
set_option maxRecDepth 100000 in
theorem oneA (tk : Nat → UInt8 → Bool) (n : Nat) (s : ByteArray) (p : ByteArray) (w : World) (hp : p.size ≤ 1048576) (hn : n ≤ 2097152) (HM : Hid (MatchA tk n s w)) (HI : Hid (IndexA tk n s w)) (HL : Hid (LenA n s)) (hm1 : ∀ w, (method 262 102 (.string s) "example.com/ensec/ensec/internal/policy.len").run Tryd.prog w = .ok (103, .string s) w) (first mid last : ByteArray) (o : Nat) (hz1 : first.size = o) (ho1 : o ≤ 1048576) (hzm : mid.size ≤ 1048576) (hzl : last.size ≤ 1048576) (HC : Hid (cutV p = .tuple #[.string first, .string last, .bool true])) (hbf : matchB tk n (bs first) 0 = true) (hG : Hid (D tk (bs p) n = true ↔ Greedy tk n (bs last) ((parts mid).map bs) o)) (hlt0 : Lib.lastIndexByte last 42 < 0) (hmid : mid = ⟨#[]⟩) :
    Calls Tryd.prog 51 #[.string p, .string s] w fun e w' => e = .returned (.bool (D tk (bs p) n)) ∧ Below w.heap.size w w' := by
  have hA := hid (HeldA.start w s)
  have ho : o ≤ n := by
    have := ((matchB_iff tk n (bs first) 0).1 hbf).1
    rw [bs_len] at this
    omega
  have hMf := hid (HM.out first 0)
  rw [hbf] at hMf
  clear hbf
  have hpz := parts_size _ mid (Nat.le_refl _)
  refine (callsIn_wide (n := 3)).1 ?_
  refine callsIn_of_wp_marks Tryd.func51 rfl trivial ?_ rfl
  simp only [Tryd.ntmps51, List.size_toArray, List.length_cons, List.length_nil, Nat.reduceAdd, Nat.reduceSub, Array.replicate_succ, Array.replicate_zero, List.push_toArray, List.append_toArray, List.nil_append, List.cons_append]
  have HLI := hid (fun w => Tryd.strings_LastIndexByte last 42 (by omega) w)
  obtain ⟨li, hli⟩ : ∃ li, Lib.lastIndexByte last 42 = li := ⟨_, rfl⟩
  rw [hli] at HLI hlt0
  clear hli
  gi_wp2_with (first
    | (refine ⟨trivial, ?_⟩; gi_at_call 40; refine (callsIn_wide.2 (st_cut p _ hp)).mono ?_; rw [HC.out]; rintro e w1 ⟨rfl, hb1⟩; have hA1 := hid (hA.out.below hb1); obtain ⟨c0, c1, z1⟩ := hA1.out.cells)
    | (refine ⟨trivial, ?_⟩; gi_at_call 61; refine (callsIn_wide.2 (hMf.out _ (by omega) (by omega) hA1.out.2.2)).mono ?_; rintro e w2 ⟨rfl, hb2⟩; have hA2 := hid (hA1.out.below hb2); clear c0 c1 z1; obtain ⟨c0, c1, z1⟩ := hA2.out.cells)
    | (refine ⟨trivial, ?_⟩; gi_at_call 42; refine (callsIn_wide.2 (HLI.out _)).mono ?_; rintro e w3 ⟨rfl, rfl⟩)
    | (refine ⟨trivial, ?_⟩; gi_at_call 43; refine (callsIn_wide.2 (st_split _ _)).mono ?_; rintro e w4 ⟨rfl, rfl⟩))
  rw [← hmid]
  clear hmid c0 c1 z1
  have hbA : w.heap.size + 2 ≤ w3.heap.size := by have := hA2.out.2.1.lt; omega
  have rA := (((row1 w3 (.int .i64 o) 3).alloc (.cells #[.string mid] 9)).alloc (.cells #[.string ⟨#[42]⟩] 9)).alloc (.cells #[.int .i64 0] 3)
  have hS4 : SplitAt (w3.heap.size + 1) mid ((((w3.alloc (.cells #[.int .i64 o] 3)).alloc (.cells #[.string mid] 9)).alloc (.cells #[.string ⟨#[42]⟩] 9)).alloc (.cells #[.int .i64 0] 3)) := by
    have r1 := row1 (w3.alloc (.cells #[.int .i64 o] 3)) (.string mid) 9
    have r2 := row1 ((w3.alloc (.cells #[.int .i64 o] 3)).alloc (.cells #[.string mid] 9)) (.string ⟨#[42]⟩) 9
    have r3 := row1 (((w3.alloc (.cells #[.int .i64 o] 3)).alloc (.cells #[.string mid] 9)).alloc (.cells #[.string ⟨#[42]⟩] 9)) (.int .i64 0) 3
    simp only [World.size_alloc] at r1 r2 r3
    exact ⟨(r1.alloc _).alloc _, r2.alloc _, r3⟩
  have hH := ((((hA2.out.below ((Below.refl _ _).alloc (Nat.le_refl _) (.cells #[.int .i64 o] 3))).below ((Below.refl _ _).alloc (Nat.le_refl _) (.cells #[.string mid] 9)))).below ((Below.refl _ _).alloc (Nat.le_refl _) (.cells #[.string ⟨#[42]⟩] 9))).below ((Below.refl _ _).alloc (Nat.le_refl _) (.cells #[.int .i64 0] 3))
  have hz4 : ((((w3.alloc (.cells #[.int .i64 o] 3)).alloc (.cells #[.string mid] 9)).alloc (.cells #[.string ⟨#[42]⟩] 9)).alloc (.cells #[.int .i64 0] 3)).heap.size = w3.heap.size + 4 := by simp
  obtain ⟨W4, hW4⟩ : ∃ W4, (((w3.alloc (.cells #[.int .i64 o] 3)).alloc (.cells #[.string mid] 9)).alloc (.cells #[.string ⟨#[42]⟩] 9)).alloc (.cells #[.int .i64 0] 3) = W4 := ⟨_, rfl⟩
  rw [hW4] at hH rA hS4 hz4 ⊢
  obtain ⟨bA, hbe⟩ : ∃ bA, w3.heap.size = bA := ⟨_, rfl⟩
  rw [hbe] at hbA rA hS4 hz4 ⊢
  clear hW4 hbe hA hA1 hA2 hb1 hb2 hMf HLI HC
  refine range_state rfl (by omega) (gf := 66) (lb := #[.pointer (some ⟨bA + 1 + 1, 0, none⟩), .pointer (some ⟨bA + 1, 0, none⟩), .pointer (some ⟨bA + 1 + 2, 0, none⟩)]) rfl trivial (enters_of Tryd.func66 (by kernel_rfl) rfl)
    (split_seq 2 (bA + 1) mid (bA + 1) W4.heap.size (Nat.le_refl _) (by omega) hzm) (by omega) (fun _ => rfl)
    (RoundA tk n (bs last) o bA W4.heap.size w s) (StopA tk n (bs last) o w s) ?hIs ?hIb ?hXb ?h0 ?hIt ?a1 ?assign ?body ?done ?stop
  case hIs =>
    rintro pre W v ⟨h, hm, x, hx, hr, hg⟩
    exact ⟨h.set (by omega) _, by rw [World.size_setCell]; exact hm, x, hx, hr.setOther (by show bA ≠ bA + 1; omega) _, hg⟩
  case hIb =>
    rintro pre W l oo oo' hw hl hc ⟨h, hm, x, hx, hr, hg⟩
    exact ⟨h.put hl hc (by omega), by rw [World.putObj_size]; exact hm, x, hx, row_put hr hl hc, hg⟩
  case hXb =>
    rintro pre W l oo oo' hw hl hc ⟨h, hg⟩
    exact ⟨h.put hl hc (by omega), hg⟩
  case h0 =>
    intro o1 o2
    exact ⟨(hH.below ((Below.refl _ _).alloc (Nat.le_refl _) _)).below ((Below.refl _ _).alloc (Nat.le_refl _) _), by simp; omega, o, ho, (rA.alloc _).alloc _, fun ts => Iff.rfl⟩
  case hIt =>
    intro o1 o2
    exact ⟨(hS4.1.alloc _).alloc _, (hS4.2.1.alloc _).alloc _, (hS4.2.2.alloc _).alloc _⟩
  case assign =>
    intro l x W K hK
    gi_wp2
    exact hK
  case body =>
    clear hH rA hS4
    rintro l pre x W hpx ⟨hH, hlt, v, hv, rv, hg⟩
    have hx : x.size ≤ 1048576 := by
      have := hpz x (hpx.subset (by simp))
      omega
    have hI := HI.out x v W hx hv hH.2.2
    obtain ⟨c0, c1, z1⟩ := hH.cells
    have cA := rv.cell (i := 0) (by omega)
    rcases idxI_cases tk n (bs x) v with hneg | ⟨k, hk⟩
    · have hno := hid (greedy_stop (last := bs last) tk hneg)
      generalize idxI tk n (bs x) v = iv at *
      gi_wp2_with (refine ⟨trivial, ?_⟩; gi_at_call 62; refine (CallsIn.inRound l (callsIn_wide.2 hI)).mono ?_; rintro e W2 ⟨rfl, hb⟩; have hH2 := hid (hH.below hb); clear c0 c1 z1 cA; obtain ⟨c0, c1, z1⟩ := hH2.out.cells)
      refine ⟨(keeps_below hb).trans (KeepsOthers.setCell _ _ _), hH2.out.stay, fun ts => ?_⟩
      rw [List.map_append, List.append_assoc, hg]
      exact hno.out ts
    · have hgn := hid (greedy_next (last := bs last) tk hk)
      have hkz := (hgn.out []).1
      rw [bs_len] at hkz
      rw [hk] at hI
      clear hk
      gi_wp2_with (refine ⟨trivial, ?_⟩; gi_at_call 62; refine (CallsIn.inRound l (callsIn_wide.2 hI)).mono ?_; rintro e W2 ⟨rfl, hb⟩; have hH2 := hid (hH.below hb); have rv2 := hid (rv.of_block (hb.block _ rv.lt)); clear c0 c1 z1 cA; obtain ⟨c0, c1, z1⟩ := hH2.out.cells; have cA := rv2.out.cell (i := 0) (by omega); have zA := rv2.out.frozen 0)
      refine ⟨(keeps_below hb).trans (KeepsOthers.setCell _ _ _), (run_below hb hlt).trans (run_set _ (by omega) _), hH2.out.set (by omega) _, by rw [World.size_setCell]; exact Nat.le_trans hlt hb.size, k + x.size, hkz, ?_, fun ts => ?_⟩
      · refine (rv2.out.set 0 _).congr (fun i hi => ?_)
        rw [if_pos (by omega)]
        simp
      · rw [List.map_append, List.append_assoc, hg]
        have := (hgn.out ts).2
        rw [bs_len] at this
        exact this
  case done =>
    clear hH rA hS4 HI hpz
    rintro Df W hD ⟨hH, hlt, v, hv, rv, hg⟩ hK
    obtain ⟨c0, c1, z1⟩ := hH.cells
    have cA := rv.cell (i := 0) (by omega)
    have hGv : D tk (bs p) n = true ↔ v + last.size ≤ n ∧ Lit tk (bs last) (n - last.size) := by
      have := hg []
      rw [List.append_nil] at this
      rw [hG.out, this]
      show _ + (bs last).length ≤ _ ∧ Lit tk (bs last) (n - (bs last).length) ↔ _
      rw [bs_len]
    clear hg hG
    have q0 := cell_regrown c0
    have qA := cell_regrown cA
    have HLq : Hid (∀ (d : Nat) (os : Array Obj), Calls Tryd.prog 103 #[.string s] (Go.Sort.grow (redrawn W d) os) fun e w' => e = .returned (.int .i64 n) ∧ Below (Go.Sort.grow (redrawn W d) os).heap.size (Go.Sort.grow (redrawn W d) os) w') := hid (fun d os => HL.out _)
    clear c0 c1 z1 cA HL
    by_cases hvl : v + last.size ≤ n
    · have hvi : decide ((v : Int) ≤ (n : Int) - (last.size : Int)) = true := by simp; omega
      have hvj : (v : Int) ≤ (n : Int) - (last.size : Int) := by omega
      obtain ⟨bM, hbM⟩ : ∃ bM, matchB tk n (bs last) (n - last.size) = bM := ⟨_, rfl⟩
      have HBM := hid hbM
      have HMq : Hid (∀ (d : Nat) (os : Array Obj), Calls Tryd.prog 61 #[.string s, .string last, .int .i64 ((n : Int) - (last.size : Int))] (Go.Sort.grow (redrawn W d) os) fun e w' => e = .returned (.bool bM) ∧ Below (Go.Sort.grow (redrawn W d) os).heap.size (Go.Sort.grow (redrawn W d) os) w') := by
        refine hid (fun d os => ?_)
        have := HM.out last (n - last.size) (Go.Sort.grow (redrawn W d) os) hzl (by omega) (hH.2.2.trans ((below_regrown W d os).mono hH.2.2.size))
        rw [hbM, show (((n - last.size : Nat) : Int)) = (n : Int) - (last.size : Int) by omega] at this
        exact this
      clear hbM HM
      gi_wp2
      refine region_last' 19 rfl (by kernel_rfl) (by kernel_rfl) ?_
      simp only [List.take_succ_cons, List.take_zero, List.drop_succ_cons, List.drop_zero]
      repeat (first | gi_big_quiet_step (first | exact CallsIn.regrown_of (callsIn_wide.2 (HLq.out _ _)) | exact CallsIn.regrown_of (callsIn_wide.2 (HMq.out _ _))) | (refine wpQuietIn_step (fun _ _ _ _ => trivial) (fun K hK => ?_); go_simp; first | (refine hK _ ?_; clear hK K) | (apply Exists.intro; refine ⟨fun _ => ?_, hK _ ?_⟩; (first | exact CallsIn.regrown_of (callsIn_wide.2 (HLq.out _ _)) | exact CallsIn.regrown_of (callsIn_wide.2 (HMq.out _ _))); clear hK K)))
      refine wpQuietIn_nil ?_
      intro _ hw'
      obtain ⟨⟨dq, osq⟩, hw''⟩ := hw'
      subst hw''
      have hH9 := hid (hH.below (below_regrown W dq osq))
      have hK9 := ((below_regrown W dq osq).block Df (Array.getElem?_eq_some_iff.1 hK).1).trans hK
      clear q0 qA HLq HMq hH rv hK
      generalize Go.Sort.grow (redrawn W dq) osq = W9 at *
      obtain ⟨c0, c1, z1⟩ := hH9.out.cells
      have hEnd := hid (endA hH9.out hK9 (by omega) bM)
      gi_wp2
      refine ⟨by simp, .inl ⟨_, _, rfl, run_takeDeferred hEnd.out.2.2, ?_⟩⟩
      refine ⟨.bool bM, ?_, ?_, hEnd.out.2.1⟩
      · simp [results, Tryd.f51, go_sem, hEnd.out.1]
      · refine ret_bool ?_
        rw [← HBM.out, Bool.eq_iff_iff, hGv, matchB_iff, bs_len]
        constructor
        · rintro ⟨_, h2⟩; exact ⟨hvl, h2⟩
        · rintro ⟨_, h2⟩; exact ⟨by omega, h2⟩
    · have hvi : decide ((v : Int) ≤ (n : Int) - (last.size : Int)) = false := by simp; omega
      clear HM
      gi_wp2
      refine region_last' 19 rfl (by kernel_rfl) (by kernel_rfl) ?_
      simp only [List.take_succ_cons, List.take_zero, List.drop_succ_cons, List.drop_zero]
      repeat (first | gi_big_quiet_step (exact CallsIn.regrown_of (callsIn_wide.2 (HLq.out _ _))) | (refine wpQuietIn_step (fun _ _ _ _ => trivial) (fun K hK => ?_); go_simp; first | (refine hK _ ?_; clear hK K) | (apply Exists.intro; refine ⟨fun _ => ?_, hK _ ?_⟩; (exact CallsIn.regrown_of (callsIn_wide.2 (HLq.out _ _))); clear hK K)))
      refine wpQuietIn_nil ?_
      intro _ hw'
      obtain ⟨⟨dq, osq⟩, hw''⟩ := hw'
      subst hw''
      have hH9 := hid (hH.below (below_regrown W dq osq))
      have hK9 := ((below_regrown W dq osq).block Df (Array.getElem?_eq_some_iff.1 hK).1).trans hK
      clear q0 qA HLq  hH rv hK
      generalize Go.Sort.grow (redrawn W dq) osq = W9 at *
      obtain ⟨c0, c1, z1⟩ := hH9.out.cells
      have hEnd := hid (endA hH9.out hK9 (by omega) false)
      gi_wp2
      refine ⟨by simp, .inl ⟨_, _, rfl, run_takeDeferred hEnd.out.2.2, ?_⟩⟩
      refine ⟨.bool false, ?_, ?_, hEnd.out.2.1⟩
      · simp [results, Tryd.f51, go_sem, hEnd.out.1]
      · refine ret_bool ?_
        rw [eq_comm, Bool.eq_false_iff, Ne, hGv]
        exact fun hh => hvl hh.1
  case stop =>
    rintro Df pre W hD hpx ⟨hH, hg⟩ hK
    gi_wp2
    refine ⟨by simp, .inl ⟨_, _, rfl, run_takeDeferred hK, ?_⟩⟩
    have hE := hH.put (o' := .deferred none) hK rfl (by omega)
    refine ⟨.bool false, ?_, ?_, hE.2.2⟩
    · simp [results, Tryd.f51, go_sem, hE.cells.2.1]
    · obtain ⟨ts, hts⟩ := hpx
      refine ret_bool ?_
      rw [eq_comm, Bool.eq_false_iff, Ne, hG.out, ← hts, List.map_append]
      exact hg _
end Go.Proofs.Qxb6613124aDoor
