/-
  THE ROW AND THE TIED CARD of 'FnKeyAllowsModel', PROVED. The frame after the guide's Pindig and Rpn.
-/
import Derived.Test.Qxb6613124aDoorCards
import Derived.Test.Qxb6613124aDoorTie
import Derived.Test.Qxb6613124aDoorOpen
import Derived.SevenTiedAt
namespace Go.Proofs.Qxb6613124aDoor
open Go.ChangeShapes Go.WideShapes Go.ChangeAt Go.RowKit

section
variable {H : Type} {enc : TypeId × Value → H} {W : World} {base : Nat} {sp : Nat → Bool} {held : Bool}
/-- The request. -/
theorem rq_of {fuel : Nat} {cs : List Value} {x : DataW H × List MemPlace} (h : DataW.trod enc Tryd.prog W base sp held fuel 30 cs = some x) :
    ∃ (a0 a1 a2 a3 a5 : ByteArray) (z : Int) (mv : Value) (f : Int → Option (List UInt8)) (L : Nat), cs = [.string a0, .string a1, .string a2, .string a3, .int .i64 z, .string a5, mv] ∧ MapAll W mv f ∧ ∀ W', Below W.heap.size W W' → (Builtin.len_ #[26] 3 #[mv]).run Tryd.prog W' = .ok (.int .i64 (L : Int)) W' := by
  have hl := struct_len Tryd.underlying30 h
  rw [cells30] at hl
  obtain ⟨_, _, h0⟩ := field_of Tryd.underlying30 h 0 9 0 cells9 rfl
  obtain ⟨_, _, h1⟩ := field_of Tryd.underlying30 h 1 9 1 cells9 rfl
  obtain ⟨_, _, h2⟩ := field_of Tryd.underlying30 h 2 9 2 cells9 rfl
  obtain ⟨_, _, h3⟩ := field_of Tryd.underlying30 h 3 9 3 cells9 rfl
  obtain ⟨_, _, h4⟩ := field_of Tryd.underlying30 h 4 25 4 cells25 rfl
  obtain ⟨_, _, h5⟩ := field_of Tryd.underlying30 h 5 28 6 cells28 rfl
  obtain ⟨_, _, h40⟩ := field_of Tryd.underlying25 h4 0 3 0 cells3 rfl
  obtain ⟨_, _, h41⟩ := field_of Tryd.underlying25 h4 1 9 1 cells9 rfl
  obtain ⟨_, _, h50⟩ := field_of Tryd.underlying28 h5 0 26 0 cells26 rfl
  obtain ⟨c0, c1, c2, c3, c4, c5, c6, rfl⟩ := list7 hl
  obtain ⟨a0, e0, _⟩ := DataW.trod_string Tryd.underlying9 h0
  obtain ⟨a1, e1, _⟩ := DataW.trod_string Tryd.underlying9 h1
  obtain ⟨a2, e2, _⟩ := DataW.trod_string Tryd.underlying9 h2
  obtain ⟨a3, e3, _⟩ := DataW.trod_string Tryd.underlying9 h3
  obtain ⟨z, e4, _⟩ := DataW.trod_int Tryd.underlying3 h40
  obtain ⟨a5, e5, _⟩ := DataW.trod_string Tryd.underlying9 h41
  obtain ⟨mv, f, L, e6, hM, hL⟩ := map_of h50
  simp at e0 e1 e2 e3 e4 e5 e6
  subst e0 e1 e2 e3 e4 e5 e6
  exact ⟨a0, a1, a2, a3, a5, z, c6, f, L, rfl, hM, hL⟩
end

/-- The law at any length. -/
theorem law_any (ks gs : List SV) (pk pg : Option Addr) (ck cg : Nat) (a0 a1 a2 a3 a5 : ByteArray) (z : Int) (mv : Value) (f : Int → Option (List UInt8)) (L : Nat) (w : World) (hL : ∀ W, Below w.heap.size w W → (Builtin.len_ #[26] 3 #[mv]).run Tryd.prog W = .ok (.int .i64 (L : Int)) W) (hM : MapAll w mv f) (hT1 : Cases w) (hT2 : FoldTab w)
    (hK : StmtsAt w pk ks) (hG : IdentAt w pg gs) (hKR : ∀ s ∈ ks, Raw w mv f s) (hGR : ∀ s ∈ gs, Raw w mv f s) (hKN : ∀ s ∈ ks, Nils s) (hGN : ∀ s ∈ gs, Nils s) (hgp : ∀ s ∈ gs, s.pp = none) (hgn : pg = none → gs = []) :
    Calls Tryd.prog 3 #[.slice pk ks.length ck, .slice pg gs.length cg, .agg #[.string a0, .string a1, .string a2, .string a3, .int .i64 z, .string a5, mv]] w fun e w' => e = .returned (.bool true) ∧ Below w.heap.size w w' := by
  by_cases hz : z < 0
  · exact law_neg ks gs pk pg ck cg { principal := a0, account := a1, action := a2, resource := a3, len := 0, digits := a5, mv := mv } z f L w hz (hid hL) (hid hM) (hid hK) (hid hG) (hid hKR) (hid hGR)
  · have e : z = ((z.toNat : Nat) : Int) := by omega
    rw [e]
    exact law_pos ks gs pk pg ck cg { principal := a0, account := a1, action := a2, resource := a3, len := z.toNat, digits := a5, mv := mv } f L w (hid hL) (hid hM) (hid hT1) (hid hT2) (hid hK) (hid hG) (hid hKR) (hid hGR) (hid hKN) (hid hGN) (hid hgp) (hid hgn)

set_option maxRecDepth 100000 in
theorem lifted (os : Os) (started : os.Started) (H : Type) (enc : TypeId × Value → H) :
    ReturnsInHanded {} Tryd.checked os 3 .any (fun w args => (Rows.fnKeyAllowsModelSpec.pre enc Tryd.prog Tryd.f3 Rows.fnKeyAllowsModelRow.domain false w args ∧ laidMetH Tryd.prog Rows.fnKeyAllowsModelRow.laid w) ∧ sizedMet enc Tryd.prog Tryd.f3 (OpenSpec.ofChange Rows.fnKeyAllowsModelSpec) false w args)
      (Rows.fnKeyAllowsModelSpec.post enc Tryd.prog Tryd.f3 false true false false) := by
  refine returnsInHanded_of_change_and (C := Tryd.checked) (X := fun w _ => laidMetH Tryd.prog Rows.fnKeyAllowsModelRow.laid w) (fun _ _ _ hh h => h.of_heap hh) own started (by kernel_rfl) Tryd.func3
    (ChangeSpec.witness_shaped (enc := enc) (C := Tryd.checked) (os := os) (X := fun w _ => laidMetH Tryd.prog Rows.fnKeyAllowsModelRow.laid w) false (World.laidAll Tryd.prog os Rows.fnKeyAllowsModelRow.laid) #[.slice none 0 0, .slice none 0 0, .agg #[.string ⟨#[]⟩, .string ⟨#[]⟩, .string ⟨#[]⟩, .string ⟨#[]⟩, .int .i64 0, .string ⟨#[]⟩, .map none]] 8 (World.laidAll_os _ _ _)
      (World.shaped_of_ZipB (by kernel_rfl) (by kernel_rfl)) (by kernel_rfl) (by kernel_rfl) (by kernel_rfl)
      (by rw [MakeChecks.laidMetH_plain _ _ _ (by kernel_rfl)]; exact laidMet_laidAll _ (by kernel_rfl) (by kernel_rfl))) ?_
  intro W base args ds gs before hval0 hW _ _ hL _
  have hval : ∀ (j : Nat) t v, Tryd.f3.params[j]? = some t → args[j]? = some v → Value.okWide Tryd.prog W .any base t v := hval0
  have hW' := hW
  obtain ⟨p, q, hA0, hV, rfl, _, _⟩ := hW
  have hA : DataW.TrodAll enc Tryd.prog W 0 (fun _ => true) true Tryd.f3.params.toList args.toList ds p := hA0
  rw [Tryd.params3] at hA hval
  obtain ⟨v0, v1, v2, d0, d1, d2, p0, p1, p2, rfl, rfl, rfl, h0, h1, h2⟩ := trodAll_three hA
  obtain ⟨rfl, rfl⟩ := trodVars_none hV
  simp only [List.append_nil] at hW'
  have hlt : ∀ x ∈ p0 ++ p1 ++ p2, x.block < W.heap.size := fun x hx => by simpa using hW'.lt x hx
  rw [MakeChecks.laidMetH_plain _ _ _ (by kernel_rfl)] at hL
  have hT2 : FoldTab W := foldTab_of (Lib.laidMet.reads hL (.tail _ (.head _)))
  have hT1 : Cases W := cases_of (Lib.laidMet.reads hL (.tail _ (.tail _ (.tail _ (.head _)))))
  clear hL
  have fin : ∀ W', Below W.heap.size W W' → ∃ v, Ending.returned (.bool true) = .returned v ∧ Rows.fnKeyAllowsModelSpec.post enc Tryd.checked.prog Tryd.f3 false true false false W #[v0, v1, v2] v W' := by
    intro W' hb
    exact ⟨_, rfl, _, _, _, [], p0 ++ (p1 ++ p2), [], hW', trodAll_mk1 (shut_bool Tryd.underlying4 true),
      trodAll_mk3 (Below.trod laidOut (by kernel_rfl) (of_decide_eq_true (by kernel_rfl)) h0 hb (fun x hx => hlt x (by simp [hx])))
        (Below.trod laidOut (by kernel_rfl) (of_decide_eq_true (by kernel_rfl)) h1 hb (fun x hx => hlt x (by simp [hx])))
        (Below.trod laidOut (by kernel_rfl) (of_decide_eq_true (by kernel_rfl)) h2 hb (fun x hx => hlt x (by simp [hx]))), rfl, hb.frame _, fun h => by cases h⟩
  obtain ⟨b0, len0, cap0, rfl⟩ := okWide_slice Tryd.underlying22 (hval 0 22 v0 rfl rfl)
  obtain ⟨b1, len1, cap1, rfl⟩ := okWide_slice Tryd.underlying23 (hval 1 23 v1 rfl rfl)
  obtain ⟨f0, hf0⟩ := h0
  obtain ⟨f1, hf1⟩ := h1
  obtain ⟨f2, hf2⟩ := h2
  obtain ⟨pk, ks, ck, e0, hK, hKR, hKN⟩ := ks_of hf0
  obtain ⟨pg, gs, cg, e1, hgn, hG, hGR, hGN, hgp⟩ := gs_of hf1
  obtain ⟨a0, a1, a2, a3, a5, z, mv, f, L, e2, hM, hL⟩ := rq_of hf2
  simp [Value.cells] at e0 e1
  obtain ⟨rfl, rfl, rfl⟩ := e0
  obtain ⟨rfl, rfl, rfl⟩ := e1
  have hv2 : v2 = .agg #[.string a0, .string a1, .string a2, .string a3, .int .i64 z, .string a5, mv] := by
    obtain ⟨xs, rfl, _⟩ := okWide_struct Tryd.underlying30 (hval 2 30 v2 rfl rfl)
    exact congrArg Value.agg (Array.toList_inj.1 (by simpa [Value.cells] using e2))
  subst hv2
  refine (law_any ks gs b0 b1 cap0 cap1 a0 a1 a2 a3 a5 z mv f L W hL hM hT1 hT2 hK hG (hKR mv f) (hGR mv f) hKN hGN hgp hgn).mono fun e W' ⟨he, hb⟩ => ?_
  subst he
  exact fin W' hb

theorem holds : Rows.FnKeyAllowsModelSaid :=
  OpenClaim.holds_of_wide 3 Tryd.f3 rfl rfl rfl rfl rfl rfl rfl ⟨rfl, rfl, rfl, rfl, rfl⟩ rfl rfl rfl rfl rfl (by kernel_rfl) Tryd.func3 (by kernel_rfl)
    (of_decide_eq_true (by kernel_rfl)) (by unfold Func.isWrapper; first | (rw [if_pos (by decide +kernel)]; kernel_rfl) | (rw [if_neg (by decide +kernel)]; exact ⟨rfl, rfl⟩))
    (fun os started H enc _ => lifted os started H enc)

theorem card_holds : Rows.FnKeyAllowsModelCardSaid :=
  Claim7.holds_tied_plain_at .later [] [.data, .data, .data, .pinned, .pinned] true (true, "99bf143724051574a9daad1d023ffd0eaa22125e88370a471b9b601f307d7283") false holds (fun _ h => by cases h) (by kernel_rfl) (fun _ h => by cases h) fnKeyAllowsModel_row_tie rfl ⟨rfl, rfl⟩ (by kernel_rfl) rfl
    (fun f fn hf hfn => by
      obtain rfl : f = 3 := Option.some.inj ((show Tryd.prog.funcNamed Rows.fnKeyAllowsModelRow.func = some 3 by kernel_rfl).symm.trans hf) |>.symm
      obtain rfl : fn = Tryd.f3 := (Option.some.inj (Tryd.func3.symm.trans hfn)).symm
      exact ⟨by kernel_rfl, fun j t ht => by
        rw [Tryd.params3] at ht
        have hm : t ∈ [22, 23, 30] := by simpa using Array.mem_of_getElem? ht
        have hall : ([22, 23, 30].all fun u => !Tryd.prog.wantsStandIn u) = true := by kernel_rfl
        exact (show Tryd.prog.wantsStandIn t = false by simpa using List.all_eq_true.1 hall t hm)⟩)
    (by kernel_rfl)
end Go.Proofs.Qxb6613124aDoor
