/-
  THE ROW AND THE TIED CARD of 'FnUnprintableLatin1AndNonScalar', PROVED. The frame after the guide's Pindig.
-/
import Derived.Test.Qxb6613423aDoorProof
namespace Go.Proofs.Qxb6613423aDoor
open Go.ChangeShapes Go.WideShapes Go.ChangeAt Go.RowKit

set_option maxRecDepth 100000 in
theorem latin_lifted (os : Os) (started : os.Started) (H : Type) (enc : TypeId × Value → H) :
    ReturnsInHanded {} Tryd.checked os 3 .any (fun w args => (Rows.fnUnprintableLatin1AndNonScalarSpec.pre enc Tryd.prog Tryd.f3 Rows.fnUnprintableLatin1AndNonScalarRow.domain false w args ∧ laidMetH Tryd.prog Rows.fnUnprintableLatin1AndNonScalarRow.laid w) ∧ sizedMet enc Tryd.prog Tryd.f3 (OpenSpec.ofChange Rows.fnUnprintableLatin1AndNonScalarSpec) false w args)
      (Rows.fnUnprintableLatin1AndNonScalarSpec.post enc Tryd.prog Tryd.f3 false true false false) := by
  refine returnsInHanded_of_change_and (C := Tryd.checked) (X := fun w _ => laidMetH Tryd.prog Rows.fnUnprintableLatin1AndNonScalarRow.laid w) (fun _ _ _ hh h => h.of_heap hh) own started (by kernel_rfl) Tryd.func3
    (ChangeSpec.witness_shaped (enc := enc) (C := Tryd.checked) (os := os) (X := fun w _ => laidMetH Tryd.prog Rows.fnUnprintableLatin1AndNonScalarRow.laid w) false (World.laidAll Tryd.prog os Rows.fnUnprintableLatin1AndNonScalarRow.laid) #[.int .i32 0] 8 (World.laidAll_os _ _ _)
      (World.shaped_of_ZipB (by kernel_rfl) (by kernel_rfl)) (by kernel_rfl) (by kernel_rfl) (by kernel_rfl)
      (by rw [MakeChecks.laidMetH_plain _ _ _ (by kernel_rfl)]; exact laidMet_laidAll _ (by kernel_rfl) (by kernel_rfl))) ?_
  intro W base args ds gs before hval0 hW _ _ hL _
  have hval : ∀ (j : Nat) t v, Tryd.f3.params[j]? = some t → args[j]? = some v → Value.okWide Tryd.prog W .any base t v := hval0
  have hW' := hW
  obtain ⟨p, q, hA0, hV, rfl, _, _⟩ := hW
  have hA : DataW.TrodAll enc Tryd.prog W 0 (fun _ => true) true Tryd.f3.params.toList args.toList ds p := hA0
  rw [Tryd.params3] at hA hval
  obtain ⟨v0, d0, rfl, rfl, h0⟩ := trodAll_one hA
  obtain ⟨rfl, rfl⟩ := trodVars_none hV
  obtain ⟨x, rfl, rfl, rfl, wx⟩ := open_int Tryd.underlying21 (hval 0 21 v0 rfl rfl) h0
  simp only [List.append_nil] at hW'
  have hx : -2147483648 ≤ x ∧ x ≤ 2147483647 := by simpa [Lit.wf, IntKind.min, IntKind.max, IntKind.signed, IntKind.bits] using wx
  rw [MakeChecks.laidMetH_plain _ _ _ (by kernel_rfl)] at hL
  have hT : Tabs W := tabs_of (Lib.laidMet.reads hL (.tail _ (.tail _ (.head _)))) (Lib.laidMet.reads hL (.head _)) (Lib.laidMet.reads hL (.tail _ (.tail _ (.tail _ (.head _))))) (Lib.laidMet.reads hL (.tail _ (.head _)))
  refine (latin_law x W hx.1 hx.2 hT).mono fun e W' ⟨he, hb⟩ => ?_
  subst he
  exact ⟨_, rfl, _, _, _, [], [], [], hW', trodAll_mk1 (shut_bool Tryd.underlying4 _), trodAll_mk1 (shut_int Tryd.underlying21 wx), rfl, hb.frame _, fun h => by cases h⟩

theorem latin_holds : Rows.FnUnprintableLatin1AndNonScalarSaid :=
  OpenClaim.holds_of_wide 3 Tryd.f3 rfl rfl rfl rfl rfl rfl rfl ⟨rfl, rfl, rfl, rfl, rfl⟩ rfl rfl rfl rfl rfl (by kernel_rfl) Tryd.func3 (by kernel_rfl)
    (of_decide_eq_true (by kernel_rfl)) (by unfold Func.isWrapper; first | (rw [if_pos (by decide +kernel)]; kernel_rfl) | (rw [if_neg (by decide +kernel)]; exact ⟨rfl, rfl⟩))
    (fun os started H enc _ => latin_lifted os started H enc)

theorem latin_card : Rows.FnUnprintableLatin1AndNonScalarCardSaid :=
  Claim7.holds_tied_plain_at .later [] [.pinned, .pinned, .pinned, .pinned] true (true, "5c31939d1a44a6ed8b3e661db9ea27b2f3eb2c27a44d31f4a7e78bf97d56bca7") false latin_holds (fun _ h => by cases h) (by kernel_rfl) (fun _ h => by cases h) fnUnprintableLatin1AndNonScalar_row_tie rfl ⟨rfl, rfl⟩ (by kernel_rfl) rfl
    (fun f fn hf hfn => by
      obtain rfl : f = 3 := Option.some.inj ((show Tryd.prog.funcNamed Rows.fnUnprintableLatin1AndNonScalarRow.func = some 3 by kernel_rfl).symm.trans hf) |>.symm
      obtain rfl : fn = Tryd.f3 := (Option.some.inj (Tryd.func3.symm.trans hfn)).symm
      exact ⟨by kernel_rfl, fun j t ht => by
        rw [Tryd.params3] at ht
        have hm : t ∈ [21] := by simpa using Array.mem_of_getElem? ht
        have hall : ([21].all fun u => !Tryd.prog.wantsStandIn u) = true := by kernel_rfl
        exact (show Tryd.prog.wantsStandIn t = false by simpa using List.all_eq_true.1 hall t hm)⟩)
    (by kernel_rfl)
end Go.Proofs.Qxb6613423aDoor
