/-
  THE ROW AND THE TIED CARD of 'PropMembersInvertArEncodingAndTile', PROVED. The frame after the guide's Pindig and Rpn.
-/
import Derived.Test.Qxb6003829aDoorCards
import Derived.Test.Qxb6003829aDoorTie
import Derived.Test.Qxb6003829aDoorOpen
import Derived.SevenTiedAt
namespace Go.Proofs.Qxb6003829aDoor
open Go.ChangeShapes Go.WideShapes Go.ChangeAt Go.RowKit

set_option maxRecDepth 100000 in
theorem liftedA (os : Os) (started : os.Started) (H : Type) (enc : TypeId × Value → H) :
    ReturnsInHanded {} Tryd.checked os 3 .any (fun w args => (Rows.propMembersInvertArEncodingAndTileSpec.pre enc Tryd.prog Tryd.f3 Rows.propMembersInvertArEncodingAndTileRow.domain false w args ∧ laidMetH Tryd.prog Rows.propMembersInvertArEncodingAndTileRow.laid w) ∧ sizedMet enc Tryd.prog Tryd.f3 (OpenSpec.ofChange Rows.propMembersInvertArEncodingAndTileSpec) false w args)
      (Rows.propMembersInvertArEncodingAndTileSpec.post enc Tryd.prog Tryd.f3 false true false false) := by
  refine returnsInHanded_of_change_and (C := Tryd.checked) (X := fun w _ => laidMetH Tryd.prog Rows.propMembersInvertArEncodingAndTileRow.laid w) (fun _ _ _ hh h => h.of_heap hh) own started (by kernel_rfl) Tryd.func3
    (ChangeSpec.witness_shaped (enc := enc) (C := Tryd.checked) (os := os) (X := fun w _ => laidMetH Tryd.prog Rows.propMembersInvertArEncodingAndTileRow.laid w) false (World.laidAll Tryd.prog os Rows.propMembersInvertArEncodingAndTileRow.laid) #[.slice none 0 0, .slice none 0 0] 8 (World.laidAll_os _ _ _)
      (World.shaped_of_ZipB (by kernel_rfl) (by kernel_rfl)) (by kernel_rfl) (by kernel_rfl) (by kernel_rfl)
      (by rw [MakeChecks.laidMetH_plain _ _ _ (by kernel_rfl)]; exact laidMet_laidAll _ (by kernel_rfl) (by kernel_rfl))) ?_
  intro W base args ds gs before hval0 hW _ _ hL _
  have hval : ∀ (j : Nat) t v, Tryd.f3.params[j]? = some t → args[j]? = some v → Value.okWide Tryd.prog W .any base t v := hval0
  have hW' := hW
  obtain ⟨p, q, hA0, hV, rfl, _, _⟩ := hW
  have hA : DataW.TrodAll enc Tryd.prog W 0 (fun _ => true) true Tryd.f3.params.toList args.toList ds p := hA0
  rw [Tryd.params3] at hA hval
  obtain ⟨v0, v1, d0, d1, p0, p1, rfl, rfl, rfl, h0, h1⟩ := trodAll_two hA
  have hV2 := hV
  obtain ⟨_, _, _, _, dg, _, rfl, _⟩ := trodVars_one hV
  clear hV
  have hlt : ∀ x ∈ p0 ++ p1, x.block < W.heap.size := fun x hx => hW'.lt x (List.mem_append_left _ hx)
  rw [MakeChecks.laidMetH_plain _ _ _ (by kernel_rfl)] at hL
  have hE : Env W := env_of hL
  clear hL
  have fin : ∀ W', Below W.heap.size W W' → ∃ v, Ending.returned (.bool true) = .returned v ∧ Rows.propMembersInvertArEncodingAndTileSpec.post enc Tryd.checked.prog Tryd.f3 false true false false W #[v0, v1] v W' := by
    intro W' hb
    exact ⟨_, rfl, _, _, _, [], p0 ++ p1, q, hW', trodAll_mk1 (shut_bool Tryd.underlying4 true),
      trodAll_mk2 (Below.trod laidOut (by kernel_rfl) (of_decide_eq_true (by kernel_rfl)) h0 hb (fun x hx => hlt x (by simp [hx])))
        (Below.trod laidOut (by kernel_rfl) (of_decide_eq_true (by kernel_rfl)) h1 hb (fun x hx => hlt x (by simp [hx]))), Below.trodVars laidOut hb (by kernel_rfl) hV2, hb.frame _, fun h => by cases h⟩
  obtain ⟨a0, len0, cap0, rfl⟩ := okWide_slice Tryd.underlying22 (hval 0 22 v0 rfl rfl)
  obtain ⟨a1, len1, cap1, rfl⟩ := okWide_slice Tryd.underlying23 (hval 1 23 v1 rfl rfl)
  obtain ⟨f0, hf0⟩ := h0
  obtain ⟨f1, hf1⟩ := h1
  obtain ⟨a, b, o, ms, cp, e0, ha, hC⟩ := mems_of hf0
  obtain ⟨pr, raw, cr, e1, hS, _⟩ := bytes_of hf1
  simp [Value.cells] at e0 e1
  obtain ⟨rfl, rfl, rfl⟩ := e0
  obtain ⟨rfl, rfl, rfl⟩ := e1
  refine (lawA ms a0 b o cap0 raw a1 cap1 W ha hC hE hS).mono fun e W' ⟨he, hb⟩ => ?_
  subst he
  exact fin W' hb

theorem holdsA : Rows.PropMembersInvertArEncodingAndTileSaid :=
  OpenClaim.holds_of_wide 3 Tryd.f3 rfl rfl rfl rfl rfl rfl rfl ⟨rfl, rfl, rfl, rfl, rfl⟩ rfl rfl rfl rfl rfl (by kernel_rfl) Tryd.func3 (by kernel_rfl)
    (of_decide_eq_true (by kernel_rfl)) (by unfold Func.isWrapper; first | (rw [if_pos (by decide +kernel)]; kernel_rfl) | (rw [if_neg (by decide +kernel)]; exact ⟨rfl, rfl⟩))
    (fun os started H enc _ => liftedA os started H enc)

theorem cardA_holds : Rows.PropMembersInvertArEncodingAndTileCardSaid :=
  Claim7.holds_tied_plain_at .later [] [.data, .data, .data, .data, .sentinel, .sentinel, .listed, .data, .sentinel, .pinned] true (true, "34cb9f9545973d0cfca695be852b32802920e19d91b6c6a769d6eabd48b9100a") true holdsA (fun _ h => by cases h) (by kernel_rfl) (fun _ h => by cases h) propMembersInvertArEncodingAndTile_row_tie rfl ⟨rfl, rfl⟩ (by kernel_rfl) rfl
    (fun f fn hf hfn => by
      obtain rfl : f = 3 := Option.some.inj ((show Tryd.prog.funcNamed Rows.propMembersInvertArEncodingAndTileRow.func = some 3 by kernel_rfl).symm.trans hf) |>.symm
      obtain rfl : fn = Tryd.f3 := (Option.some.inj (Tryd.func3.symm.trans hfn)).symm
      exact ⟨by kernel_rfl, fun j t ht => by
        rw [Tryd.params3] at ht
        have hm : t ∈ [22, 23] := by simpa using Array.mem_of_getElem? ht
        have hall : ([22, 23].all fun u => !Tryd.prog.wantsStandIn u) = true := by kernel_rfl
        exact (show Tryd.prog.wantsStandIn t = false by simpa using List.all_eq_true.1 hall t hm)⟩)
    (by kernel_rfl)
end Go.Proofs.Qxb6003829aDoor
