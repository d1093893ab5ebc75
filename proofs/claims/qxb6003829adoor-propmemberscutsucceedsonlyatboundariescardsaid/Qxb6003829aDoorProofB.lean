/-
  THE ROW AND THE TIED CARD of 'PropMembersCutSucceedsOnlyAtBoundaries', PROVED. The frame after the guide's Pindig and Rpn.
-/
import Derived.Test.Qxb6003829aDoorCards
import Derived.Test.Qxb6003829aDoorTie
import Derived.Test.Qxb6003829aDoorOpen
import Derived.SevenTiedAt
namespace Go.Proofs.Qxb6003829aDoor
open Go.ChangeShapes Go.WideShapes Go.ChangeAt Go.RowKit

set_option maxRecDepth 100000 in
theorem liftedB (os : Os) (started : os.Started) (H : Type) (enc : TypeId × Value → H) :
    ReturnsInHanded {} Tryd.checked os 4 .any (fun w args => (Rows.propMembersCutSucceedsOnlyAtBoundariesSpec.pre enc Tryd.prog Tryd.f4 Rows.propMembersCutSucceedsOnlyAtBoundariesRow.domain false w args ∧ laidMetH Tryd.prog Rows.propMembersCutSucceedsOnlyAtBoundariesRow.laid w) ∧ sizedMet enc Tryd.prog Tryd.f4 (OpenSpec.ofChange Rows.propMembersCutSucceedsOnlyAtBoundariesSpec) false w args)
      (Rows.propMembersCutSucceedsOnlyAtBoundariesSpec.post enc Tryd.prog Tryd.f4 false true false false) := by
  refine returnsInHanded_of_change_and (C := Tryd.checked) (X := fun w _ => laidMetH Tryd.prog Rows.propMembersCutSucceedsOnlyAtBoundariesRow.laid w) (fun _ _ _ hh h => h.of_heap hh) own started (by kernel_rfl) Tryd.func4
    (ChangeSpec.witness_shaped (enc := enc) (C := Tryd.checked) (os := os) (X := fun w _ => laidMetH Tryd.prog Rows.propMembersCutSucceedsOnlyAtBoundariesRow.laid w) false (World.laidAll Tryd.prog os Rows.propMembersCutSucceedsOnlyAtBoundariesRow.laid) #[.slice none 0 0] 8 (World.laidAll_os _ _ _)
      (World.shaped_of_ZipB (by kernel_rfl) (by kernel_rfl)) (by kernel_rfl) (by kernel_rfl) (by kernel_rfl)
      (by rw [MakeChecks.laidMetH_plain _ _ _ (by kernel_rfl)]; exact laidMet_laidAll _ (by kernel_rfl) (by kernel_rfl))) ?_
  intro W base args ds gs before hval0 hW _ _ hL _
  have hval : ∀ (j : Nat) t v, Tryd.f4.params[j]? = some t → args[j]? = some v → Value.okWide Tryd.prog W .any base t v := hval0
  have hW' := hW
  obtain ⟨p, q, hA0, hV, rfl, _, _⟩ := hW
  have hA : DataW.TrodAll enc Tryd.prog W 0 (fun _ => true) true Tryd.f4.params.toList args.toList ds p := hA0
  rw [Tryd.params4] at hA hval
  obtain ⟨v0, d0, rfl, rfl, h0⟩ := trodAll_one hA
  have hV2 := hV
  obtain ⟨_, _, _, _, dg, _, rfl, _⟩ := trodVars_one hV
  clear hV
  have hlt : ∀ x ∈ p, x.block < W.heap.size := fun x hx => hW'.lt x (List.mem_append_left _ hx)
  rw [MakeChecks.laidMetH_plain _ _ _ (by kernel_rfl)] at hL
  have hE : Env W := env_of hL
  clear hL
  have fin : ∀ W', Below W.heap.size W W' → ∃ v, Ending.returned (.bool true) = .returned v ∧ Rows.propMembersCutSucceedsOnlyAtBoundariesSpec.post enc Tryd.checked.prog Tryd.f4 false true false false W #[v0] v W' := by
    intro W' hb
    exact ⟨_, rfl, _, _, _, [], p, q, hW', trodAll_mk1 (shut_bool Tryd.underlying4 true),
      trodAll_mk1 (Below.trod laidOut (by kernel_rfl) (of_decide_eq_true (by kernel_rfl)) h0 hb (fun x hx => hlt x hx)), Below.trodVars laidOut hb (by kernel_rfl) hV2, hb.frame _, fun h => by cases h⟩
  obtain ⟨a0, len0, cap0, rfl⟩ := okWide_slice Tryd.underlying22 (hval 0 22 v0 rfl rfl)
  obtain ⟨f0, hf0⟩ := h0
  obtain ⟨a, b, o, ms, cp, e0, ha, hC⟩ := mems_of hf0
  simp [Value.cells] at e0
  obtain ⟨rfl, rfl, rfl⟩ := e0
  refine (lawB ms a0 b o cap0 W ha hC hE).mono fun e W' ⟨he, hb⟩ => ?_
  subst he
  exact fin W' hb

theorem holdsB : Rows.PropMembersCutSucceedsOnlyAtBoundariesSaid :=
  OpenClaim.holds_of_wide 4 Tryd.f4 rfl rfl rfl rfl rfl rfl rfl ⟨rfl, rfl, rfl, rfl, rfl⟩ rfl rfl rfl rfl rfl (by kernel_rfl) Tryd.func4 (by kernel_rfl)
    (of_decide_eq_true (by kernel_rfl)) (by unfold Func.isWrapper; first | (rw [if_pos (by decide +kernel)]; kernel_rfl) | (rw [if_neg (by decide +kernel)]; exact ⟨rfl, rfl⟩))
    (fun os started H enc _ => liftedB os started H enc)

theorem cardB_holds : Rows.PropMembersCutSucceedsOnlyAtBoundariesCardSaid :=
  Claim7.holds_tied_plain_at .later [] [.data, .data, .data, .data, .sentinel, .sentinel, .listed, .data, .sentinel, .pinned] true (true, "34cb9f9545973d0cfca695be852b32802920e19d91b6c6a769d6eabd48b9100a") true holdsB (fun _ h => by cases h) (by kernel_rfl) (fun _ h => by cases h) propMembersCutSucceedsOnlyAtBoundaries_row_tie rfl ⟨rfl, rfl⟩ (by kernel_rfl) rfl
    (fun f fn hf hfn => by
      obtain rfl : f = 4 := Option.some.inj ((show Tryd.prog.funcNamed Rows.propMembersCutSucceedsOnlyAtBoundariesRow.func = some 4 by kernel_rfl).symm.trans hf) |>.symm
      obtain rfl : fn = Tryd.f4 := (Option.some.inj (Tryd.func4.symm.trans hfn)).symm
      exact ⟨by kernel_rfl, fun j t ht => by
        rw [Tryd.params4] at ht
        have hm : t ∈ [22] := by simpa using Array.mem_of_getElem? ht
        have hall : ([22].all fun u => !Tryd.prog.wantsStandIn u) = true := by kernel_rfl
        exact (show Tryd.prog.wantsStandIn t = false by simpa using List.all_eq_true.1 hall t hm)⟩)
    (by kernel_rfl)
end Go.Proofs.Qxb6003829aDoor
