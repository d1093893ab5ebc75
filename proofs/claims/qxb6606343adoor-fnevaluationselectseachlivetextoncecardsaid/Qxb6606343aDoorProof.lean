/-
  THE ROW AND THE TIED CARD of 'FnEvaluationSelectsEachLiveTextOnce', PROVED. The frame after the guide's Pindig and Rpn.
-/
import Derived.Test.Qxb6606343aDoorCards
import Derived.Test.Qxb6606343aDoorTie
import Derived.Test.Qxb6606343aDoorLaw
import Derived.ProofKit
import Derived.Lib.SmallJoins
import Derived.Lib.LaidU8
import Derived.Lay
import Derived.SevenTiedAt
namespace Go.Proofs.Qxb6606343aDoor
open Go.ChangeShapes Go.WideShapes Go.ChangeAt Go.RowKit
open Go.ChangeMaps (open_string shut_string)

theorem own : ownKnob Tryd.prog.godebug = none := by kernel_rfl
theorem laidOut : laidOutB Tryd.prog = true := by kernel_rfl
theorem cells45 : Tryd.prog.cellsOf 45 = 4 := by kernel_rfl
theorem cells9 : Tryd.prog.cellsOf 9 = 1 := by kernel_rfl
theorem cells3 : Tryd.prog.cellsOf 3 = 1 := by kernel_rfl
theorem cells4 : Tryd.prog.cellsOf 4 = 1 := by kernel_rfl
theorem cells79 : Tryd.prog.cellsOf 79 = 1 := by kernel_rfl
theorem cells80 : Tryd.prog.cellsOf 80 = 128 := by kernel_rfl

/-- unicode.asciiFold's numbers, by a rule. -/
def foldN (n : Nat) : Int := if 65 ≤ n ∧ n ≤ 90 then n + 32 else if n = 107 then 8490 else if n = 115 then 383 else if 97 ≤ n ∧ n ≤ 122 then n - 32 else n
theorem fold_data : (Rows.laid_unicode_asciiFold : DataW Unit) = Lib.tabData .u16 ((List.range 128).map foldN) := by kernel_rfl

theorem foldTab_of {W : World} (h : Lib.VarReads Tryd.prog W "unicode.asciiFold" Rows.laid_unicode_asciiFold) : FoldTab W := by
  obtain ⟨g, t, cs, fuel, p, hg, ht, hv, hd⟩ := h
  obtain rfl := Option.some.inj ((show Tryd.prog.globalNamed "unicode.asciiFold" = some 0 by kernel_rfl).symm.trans hg)
  obtain rfl := Option.some.inj ((show (Tryd.prog.globals[0]?).map (·.type) = some 80 by kernel_rfl).symm.trans ht)
  rw [fold_data] at hd
  have hcs := Lib.cells_of_tab Tryd.underlying80 Tryd.underlying79 cells79 cells80 hd
  have key : ∀ n, n < 128 → W.cell? ⟨0, n, none⟩ = some (.int .u16 (foldN n)) := by
    intro n hn
    rw [World.var?_cell hg hv n, ← Array.getElem?_toList, hcs]
    simp [hn]
  intro c h1 h2 h3 h4
  rw [key c (by omega), key (c + 32) (by omega)]
  have e1 : foldN c = ((c + 32 : Nat) : Int) := by unfold foldN; rw [if_pos (by omega)]; omega
  have e2 : foldN (c + 32) = (c : Int) := by unfold foldN; rw [if_neg (by omega), if_neg (by omega), if_neg (by omega), if_pos (by omega)]; omega
  rw [e1, e2]
  exact ⟨rfl, rfl⟩

/-- What is there for each place is there as a list. -/
theorem list_of {α : Type} {Q : Nat → α → Prop} : ∀ (n : Nat), (∀ i, i < n → ∃ v, Q i v) → ∃ vs : List α, vs.length = n ∧ ∀ (i : Nat) (h : i < vs.length), Q i vs[i]
  | 0, _ => ⟨[], rfl, fun i h => by cases h⟩
  | n + 1, h => by
    obtain ⟨vs, hl, hv⟩ := list_of n (fun i hi => h i (by omega))
    obtain ⟨v, hq⟩ := h n (by omega)
    refine ⟨vs ++ [v], by simp [hl], fun i hi => ?_⟩
    by_cases e : i < vs.length
    · rw [List.getElem_append_left e]; exact hv i e
    · have e2 : i = n := by simp at hi; omega
      subst e2
      rw [List.getElem_append_right (by omega)]
      simpa [hl] using hq

theorem list4 {α : Type} : ∀ {l : List α}, l.length = 4 → ∃ a b c d, l = [a, b, c, d]
  | [a, b, c, d], _ => ⟨a, b, c, d, rfl⟩

theorem at_of {H : Type} {enc : TypeId × Value → H} {W : World} {base : Nat} {sp : Nat → Bool} {held : Bool} {fuel b o : Nat} {cs : List Value} {x : DataW H × List MemPlace}
    (hc : W.cells? base ⟨b, o, none⟩ 4 = some cs) (h : DataW.trod enc Tryd.prog W base sp held fuel 45 cs = some x) : ∃ v : ZVal, At W b o v ∧ v.text.size ≤ maxLen := by
  obtain ⟨y0, y1, y2, y3, n, _, hl, h0, h1, h2, h3⟩ := Joins.trod_struct4 Tryd.underlying45 h
  obtain ⟨_, _, hcc⟩ := World.cells?_some hc
  rw [cells45] at hl
  obtain ⟨c0, c1, c2, c3, rfl⟩ := list4 hl
  simp only [cells9, cells3, cells4] at h0 h1 h2 h3
  obtain ⟨s, e0, _, hs⟩ := DataW.trod_string Tryd.underlying9 h0
  obtain ⟨z, e1, _, _⟩ := DataW.trod_int Tryd.underlying3 h1
  obtain ⟨q, e2, _⟩ := DataW.trod_bool Tryd.underlying4 h2
  obtain ⟨q', e3, _⟩ := DataW.trod_bool Tryd.underlying4 h3
  simp at e0 e1 e2 e3
  subst e0 e1 e2 e3
  have k0 := hcc 0 (by omega)
  have k1 := hcc 1 (by omega)
  have k2 := hcc 2 (by omega)
  have k3 := hcc 3 (by omega)
  simp [Addr.add] at k0 k1 k2 k3
  exact ⟨⟨s, z, q, q'⟩, ⟨k0, k1, k2, k3⟩, hs⟩

set_option maxRecDepth 100000 in
theorem lifted (os : Os) (started : os.Started) (H : Type) (enc : TypeId × Value → H) :
    ReturnsInHanded {} Tryd.checked os 4 .any (fun w args => (Rows.fnEvaluationSelectsEachLiveTextOnceSpec.pre enc Tryd.prog Tryd.f4 Rows.fnEvaluationSelectsEachLiveTextOnceRow.domain false w args ∧ laidMetH Tryd.prog Rows.fnEvaluationSelectsEachLiveTextOnceRow.laid w) ∧ sizedMet enc Tryd.prog Tryd.f4 (OpenSpec.ofChange Rows.fnEvaluationSelectsEachLiveTextOnceSpec) false w args)
      (Rows.fnEvaluationSelectsEachLiveTextOnceSpec.post enc Tryd.prog Tryd.f4 false true false false) := by
  refine returnsInHanded_of_change_and (C := Tryd.checked) (X := fun w _ => laidMetH Tryd.prog Rows.fnEvaluationSelectsEachLiveTextOnceRow.laid w) (fun _ _ _ hh h => h.of_heap hh) own started (by kernel_rfl) Tryd.func4
    (ChangeSpec.witness_shaped (enc := enc) (C := Tryd.checked) (os := os) (X := fun w _ => laidMetH Tryd.prog Rows.fnEvaluationSelectsEachLiveTextOnceRow.laid w) false (World.laidAll Tryd.prog os Rows.fnEvaluationSelectsEachLiveTextOnceRow.laid) #[.string ⟨#[]⟩, .string ⟨#[]⟩, .slice none 0 0] 8 (World.laidAll_os _ _ _)
      (World.shaped_of_ZipB (by kernel_rfl) (by kernel_rfl)) (by kernel_rfl) (by kernel_rfl) (by kernel_rfl)
      (by rw [MakeChecks.laidMetH_plain _ _ _ (by kernel_rfl)]; exact laidMet_laidAll _ (by kernel_rfl) (by kernel_rfl))) ?_
  intro W base args ds gs before hval0 hW _ _ hL _
  have hval : ∀ (j : Nat) t v, Tryd.f4.params[j]? = some t → args[j]? = some v → Value.okWide Tryd.prog W .any base t v := hval0
  have hW' := hW
  obtain ⟨p, q, hA0, hV, rfl, _, _⟩ := hW
  have hA : DataW.TrodAll enc Tryd.prog W 0 (fun _ => true) true Tryd.f4.params.toList args.toList ds p := hA0
  rw [Tryd.params4] at hA hval
  obtain ⟨v0, v1, v2, d0, d1, d2, p0, p1, p2, rfl, rfl, rfl, h0, h1, h2⟩ := trodAll_three hA
  obtain ⟨rfl, rfl⟩ := trodVars_none hV
  simp only [List.append_nil] at hW'
  have hlt : ∀ x ∈ p0 ++ p1 ++ p2, x.block < W.heap.size := fun x hx => by simpa using hW'.lt x hx
  rw [MakeChecks.laidMetH_plain _ _ _ (by kernel_rfl)] at hL
  have hT : FoldTab W := foldTab_of (Lib.laidMet.reads hL (.tail _ (.head _)))
  have hz : 0 < W.heap.size := block_lt_of_cell (hT 65 (by omega) (by omega) (by omega) (by omega)).1
  clear hL
  have fin : ∀ W', Below W.heap.size W W' → ∃ v, Ending.returned (.bool true) = .returned v ∧ Rows.fnEvaluationSelectsEachLiveTextOnceSpec.post enc Tryd.checked.prog Tryd.f4 false true false false W #[v0, v1, v2] v W' := by
    intro W' hb
    exact ⟨_, rfl, _, _, _, [], p0 ++ (p1 ++ p2), [], hW', trodAll_mk1 (shut_bool Tryd.underlying4 true),
      trodAll_mk3 (Below.trod laidOut (by kernel_rfl) (of_decide_eq_true (by kernel_rfl)) h0 hb (fun x hx => hlt x (by simp [hx])))
        (Below.trod laidOut (by kernel_rfl) (of_decide_eq_true (by kernel_rfl)) h1 hb (fun x hx => hlt x (by simp [hx])))
        (Below.trod laidOut (by kernel_rfl) (of_decide_eq_true (by kernel_rfl)) h2 hb (fun x hx => hlt x (by simp [hx]))), rfl, hb.frame _, fun h => by cases h⟩
  obtain ⟨r, rfl, _, _, hr⟩ := open_string Tryd.underlying9 (hval 0 9 v0 rfl rfl) h0
  obtain ⟨c, rfl, _, _, hc⟩ := open_string Tryd.underlying9 (hval 1 9 v1 rfl rfl) h1
  obtain ⟨a0, len, cap, rfl⟩ := okWide_slice Tryd.underlying32 (hval 2 32 v2 rfl rfl)
  obtain ⟨fuel, hf⟩ := h2
  rcases Deep.open_slice Tryd.underlying32 hf with ⟨hcs, _⟩ | ⟨a, len', cap', m, n, D, Pl, hcs, _, hl, hm, hmm, _, hel⟩
  · simp [Value.cells] at hcs
    obtain ⟨rfl, rfl, rfl⟩ := hcs
    refine (law_no r c none 0 W hr hc hz hT).mono fun e W' ⟨he, hb⟩ => ?_
    subst he
    exact fin W' hb
  · simp [Value.cells] at hcs
    obtain ⟨rfl, rfl, rfl⟩ := hcs
    by_cases h00 : len = 0
    · subst h00
      refine (law_no r c (some a) cap W hr hc hz hT).mono fun e W' ⟨he, hb⟩ => ?_
      subst he
      exact fin W' hb
    · obtain ⟨b, o, spot⟩ := a
      simp only [if_true] at hmm
      rw [cells45] at hel
      have hspot : spot = none := by
        obtain ⟨cs', hc', _⟩ := hel 0 (by omega)
        obtain ⟨_, hcl, hcc⟩ := World.cells?_some hc'
        have k0 := hcc 0 (by omega)
        rw [List.getElem?_eq_getElem (by omega)] at k0
        have e : (Addr.add (Addr.add ⟨b, o, spot⟩ (0 * 4)) 0) = ⟨b, o, spot⟩ := by simp [Addr.add]
        rw [e] at k0
        exact cell_spot k0
      subst hspot
      obtain ⟨vs, hvl, hvs⟩ := list_of (Q := fun i v => At W b (o + i * 4) v ∧ v.text.size ≤ maxLen) len (fun i hi => by
        obtain ⟨cs', hc', ht'⟩ := hel i (by omega)
        have e : (Addr.add ⟨b, o, none⟩ (i * 4)) = ⟨b, o + i * 4, none⟩ := by simp [Addr.add]
        rw [e] at hc'
        exact at_of hc' ht')
      subst hvl
      have hb0 : b < W.heap.size := block_lt_of_cell (hvs 0 (by omega)).1.1
      refine (law_ne r c vs b o cap W hr hc (by omega) (fun v hv => ?_) hb0 (fun j hj => (hvs j hj).1) hT).mono fun e W' ⟨he, hb⟩ => ?_
      · obtain ⟨j, hj, rfl⟩ := List.getElem_of_mem hv
        exact (hvs j hj).2
      · subst he
        exact fin W' hb

theorem holds : Rows.FnEvaluationSelectsEachLiveTextOnceSaid :=
  OpenClaim.holds_of_wide 4 Tryd.f4 rfl rfl rfl rfl rfl rfl rfl ⟨rfl, rfl, rfl, rfl, rfl⟩ rfl rfl rfl rfl rfl (by kernel_rfl) Tryd.func4 (by kernel_rfl)
    (of_decide_eq_true (by kernel_rfl)) (by unfold Func.isWrapper; first | (rw [if_pos (by decide +kernel)]; kernel_rfl) | (rw [if_neg (by decide +kernel)]; exact ⟨rfl, rfl⟩))
    (fun os started H enc _ => lifted os started H enc)

theorem card_holds : Rows.FnEvaluationSelectsEachLiveTextOnceCardSaid :=
  Claim7.holds_tied_plain_at .later [] [.data, .data, .data, .pinned, .pinned] true (true, "0398bdbdbd21e11aa05035e7a1667b6edfdf29a45f1acb99d52542fbd48670aa") false holds (fun _ h => by cases h) (by kernel_rfl) (fun _ h => by cases h) fnEvaluationSelectsEachLiveTextOnce_row_tie rfl ⟨rfl, rfl⟩ (by kernel_rfl) rfl
    (fun f fn hf hfn => by
      obtain rfl : f = 4 := Option.some.inj ((show Tryd.prog.funcNamed Rows.fnEvaluationSelectsEachLiveTextOnceRow.func = some 4 by kernel_rfl).symm.trans hf) |>.symm
      obtain rfl : fn = Tryd.f4 := (Option.some.inj (Tryd.func4.symm.trans hfn)).symm
      exact ⟨by kernel_rfl, fun j t ht => by
        rw [Tryd.params4] at ht
        have hm : t ∈ [9, 9, 32] := by simpa using Array.mem_of_getElem? ht
        have hall : ([9, 9, 32].all fun u => !Tryd.prog.wantsStandIn u) = true := by kernel_rfl
        exact (show Tryd.prog.wantsStandIn t = false by simpa using List.all_eq_true.1 hall t hm)⟩)
    (by kernel_rfl)
end Go.Proofs.Qxb6606343aDoor
