/-
  THE WALK of 'evaluation' (19): a map of strings to bools, a slice of strings, strings.Join.
-/
import Derived.Test.Qxb6606343aDoorModel
import Derived.Test.Qxb6606343aDoorShelf
import Derived.Maps.OwnSet
import Derived.Maps.OwnOps
namespace Go.Proofs.Qxb6606343aDoor
open Go.RowKit Go.WideMaps Go.Maps

theorem law9 : Keyed Tryd.prog 9 := string_keyed Tryd.underlying9
theorem zero4 (w : World) : (zeroValue 4).run Tryd.prog w = .ok (.bool false) w := by kernel_rfl
theorem info9 : (Tryd.prog.info? 9).map (fun i => (i.zero, i.size, i.bytes)) = some (some (.string ⟨#[]⟩), 1, 16) := by kernel_rfl

theorem plainElem_bool_inv {H : Type} {P : Program} {e : TypeId} (he : P.underlying e = some .bool) {v : Value} {z : DataW H × List MemPlace} (h : plainElem P e v = some z) : ∃ x, v = .bool x ∧ z = (.lit (.bool x), []) := by
  unfold plainElem at h
  rw [he] at h
  cases v <;> simp at h
  exact ⟨_, rfl, h.symm⟩

/-- 'seen[k]' in a map of bools: what comes back, in the datum's words. -/
theorem look_bool {w : World} {b n : Nat} {D : DataW Unit} (h : w.ownsMap Tryd.prog 9 (plainElem Tryd.prog 4) b n D) {s : ByteArray} (hs : s.size ≤ maxLen) {x : Bool} (hx : D.atKey (.string s.data.toList) (.lit (.bool false)) = .lit (.bool x)) :
    (Instr.lookup 52 (.map (some b)) (.string s) false).run Tryd.prog w = .ok (.bool x) w := by
  obtain ⟨v, ps, hrun, hv⟩ := h.lookup law9 Tryd.underlying52 (zero4 w) (plainElem_bool Tryd.underlying4 false) (keyOf_string_mk Tryd.underlying9 hs)
  obtain ⟨y, rfl, hy⟩ := plainElem_bool_inv Tryd.underlying4 hv
  simp only [Prod.mk.injEq] at hy
  rw [hrun]
  have := hx.symm.trans hy.1
  simp at this
  rw [this]

/-- What the map 'seen' holds after k rounds. -/
def Seen (vs : List ZVal) (k : Nat) (D : DataW Unit) : Prop := ∀ t : ByteArray, D.atKey (.string t.data.toList) (.lit (.bool false)) = .lit (.bool (keptB vs k t))

theorem seen_zero (vs : List ZVal) : Seen vs 0 (.map []) := fun _ => rfl
theorem toList_ne {s t : ByteArray} (h : s.toList ≠ t.toList) : (Lit.string s.data.toList) ≠ .string t.data.toList := fun e => h (by rw [Lib.toList_data, Lib.toList_data]; exact (Lit.string.inj e))
theorem seen_put {vs : List ZVal} {k : Nat} {D : DataW Unit} (h : Seen vs k D) (hD : Maps.IsMap D) (hk : k < vs.length) (hv : vs[k].live = true) : Seen vs (k + 1) (D.put (.string vs[k].text.data.toList) (.lit (.bool true))) := by
  intro t
  rw [kept_snoc vs k t hk, hv]
  by_cases e : vs[k].text.toList = t.toList
  · have e' : vs[k].text.data.toList = t.data.toList := by rwa [Lib.toList_data, Lib.toList_data] at e
    rw [← e', Maps.atKey_put_same hD (by simp [WideAt.IsKeyLit])]
    simp [e]
  · rw [Maps.atKey_put_other (toList_ne (fun h => e h.symm)), h t]
    simp [e]
theorem seen_same1 {vs : List ZVal} {k : Nat} {D : DataW Unit} (h : Seen vs k D) (hk : k < vs.length) (hv : vs[k].live = false) : Seen vs (k + 1) D := by
  intro t
  rw [kept_snoc vs k t hk, hv, h t]
  simp
theorem seen_same2 {vs : List ZVal} {k : Nat} {D : DataW Unit} (h : Seen vs k D) (hk : k < vs.length) (hp : keptB vs k vs[k].text = true) : Seen vs (k + 1) D := by
  intro t
  rw [kept_snoc vs k t hk, h t]
  by_cases e : vs[k].text.toList = t.toList
  · have : keptB vs k t = true := by
      unfold keptB at *
      rwa [e] at hp
    rw [this]; rfl
  · simp [e]

/-- 'exprs = append(exprs, t)' at the operation: the one-cell slice lies in the world's last block. -/
theorem app_text {ops : Array Oper} {rest : List Oper} {o : Oper} {a : Act} {Q : Exit → Act → World → Prop} (w : World) (hgd : o.guard = none) (sl x : Operand)
    (ho : o.op = .call { callee := .builtin .append, args := #[sl, x], argTypes := #[28, 28] }) (B : Nat) (v : Value) (l : List ByteArray) (t : ByteArray) (hs : a.eval sl = v) (hown : w.ownsRow B 9 1 v l.length (l.map Value.string))
    (hB : B ≤ w.heap.size) (hx : a.eval x = .slice (some ⟨w.heap.size, 0, none⟩) 1 1) (hlen : l.length ≤ 1048576)
    (h : ∀ a' c' w', w'.ownsRow B 9 1 (.slice a' (l ++ [t]).length c') (l ++ [t]).length ((l ++ [t]).map Value.string) → w.grownBy w' v.ownBlock → wpList Tryd.prog ops Q rest (a.put o.dst (.slice a' (l ++ [t]).length c')) w') : wpList Tryd.prog ops Q (o :: rest) a (w.alloc (.cells #[.string t] 9)) := by
  obtain ⟨i0, hi, hz0, hz1, hz2⟩ := info_parts info9
  have hown' : (w.alloc (.cells #[.string t] 9)).ownsRow B 9 1 v l.length (l.map Value.string) := hown.alloc _
  refine wpList_append_own (w.alloc (.cells #[.string t] 9)) hgd sl x 28 ho B 9 i0 (.string ⟨#[]⟩) 1 16 Tryd.underlying28 hi hz0 hz1 hz2 rfl (by decide) v l.length (l.map Value.string) hs hown' ⟨w.heap.size, 0, none⟩ 1 1 [.string t] hx rfl (cell_one_new _ _ _) (by simp [Value.oneCell']) (by unfold maxLen; omega) (by omega) (by simp; omega) ?_
  intro v' w' h1 h2 h3
  have h1' : w'.ownsRow B 9 1 v' (l ++ [t]).length ((l ++ [t]).map Value.string) := by rw [List.map_append, List.length_append]; exact h1
  have hv : ∃ a' c', v' = .slice a' (l ++ [t]).length c' := by
    obtain ⟨_, ⟨hv, h0⟩ | ⟨g, cap, cur, hv, _⟩⟩ := h1'
    · simp at h0
    · exact ⟨_, _, hv⟩
  obtain ⟨a', c', rfl⟩ := hv
  exact h a' c' w' h1' ((World.grownBy_alloc w _ _).trans h2)

theorem own_kept {w w' : World} {e : TypeId} {size n : Nat} {v : Value} {xs : List Value} {m : Nat} (h : w.ownsRow (m + 1) e size v n xs) (hg : w.grownBy w' (some m)) : w'.ownsRow (m + 1) e size v n xs := by
  obtain ⟨hl, h0 | ⟨g, cap, cur, hv, hgb, hgh, h1⟩⟩ := h
  · exact ⟨hl, .inl h0⟩
  · have hlt : g < w.heap.size := by
      rcases Nat.lt_or_ge g w.heap.size with hh | hh
      · exact hh
      · rw [Array.getElem?_eq_none hh] at hgh; cases hgh
    exact ⟨hl, .inr ⟨g, cap, cur, hv, hgb, (hg.block g hlt (by simp; omega)).trans hgh, h1⟩⟩

/-- strings.Join over the one-element slice that the text lays. -/
theorem join_one (w : World) :
    Calls Tryd.prog 25 #[.slice (some ⟨w.heap.size, 0, none⟩) 1 1, .string ⟨#[44, 32]⟩] (w.alloc (.cells #[.string ⟨#[49]⟩] 9)) fun e w' => e = .returned (.string ⟨#[49]⟩) ∧ Below w.heap.size w w' := by
  refine (Tryd.strings_Join w.heap.size 0 1 [⟨#[49]⟩] ⟨#[44, 32]⟩ (w.alloc (.cells #[.string ⟨#[49]⟩] 9)) (fun j x hj => ?_) (by simp) (by decide) (by decide) (by decide)).mono ?_
  · match j, hj with
    | 0, hj => simp at hj; subst hj; simp
  · rintro e w' ⟨rfl, hb⟩
    exact ⟨rfl, ((Below.refl _ _).alloc (Nat.le_refl _) _).trans (hb.mono (by simp))⟩

/-- strings.Join over a slice of strings that the call owns. -/
theorem join_own (a : Option Addr) (cap : Nat) (ks : List ByteArray) (w : World) (B : Nat) (hown : w.ownsRow B 9 1 (.slice a ks.length cap) ks.length (ks.map Value.string)) (hne : ks ≠ []) (hlen : (joined ks).length ≤ 140737488355328) :
    Calls Tryd.prog 25 #[.slice a ks.length cap, .string ⟨#[44, 32]⟩] w fun e w' => e = .returned (.string ⟨(joined ks).toArray⟩) ∧ Below w.heap.size w w' := by
  obtain ⟨hl, ⟨_, h0⟩ | ⟨g, cap', cur, hv, hg, hgh, hn, hm, hsz, hcur⟩⟩ := hown
  · exact absurd (List.eq_nil_of_length_eq_zero h0) hne
  · simp only [Value.slice.injEq] at hv
    obtain ⟨rfl, _, rfl⟩ := hv
    have hlt : g < w.heap.size := (Array.getElem?_eq_some_iff.1 hgh).1
    have hN : ks.length ≤ 140737488355328 := by
      cases ks with
      | nil => simp
      | cons k r =>
        have h := Lib.join_length k.data.toList (r.map (·.data.toList)) comma
        have h2 : (joined (k :: r)).length = 2 * r.length + Lib.lens (k.data.toList :: r.map (·.data.toList)) := by simpa [joined, comma] using h
        simp only [List.length_cons]
        omega
    refine (Tryd.strings_Join g 0 cap ks ⟨#[44, 32]⟩ w (fun j x hj => ?_) hlt hN hn hlen).mono fun e w' h => h
    have hjl : j < ks.length := (List.getElem?_eq_some_iff.1 hj).1
    rw [Nat.zero_add]
    have e2 : w.cell? ⟨g, j, none⟩ = cur[j]? := by simp [World.cell?, hgh]
    rw [e2, ← Array.getElem?_toList]
    have e1 : cur.toList[j]? = (ks.map Value.string)[j]? := by rw [← hcur, List.getElem?_take_of_lt (by omega)]
    rw [e1, List.getElem?_map, hj]
    rfl

theorem ret_ba {a : ByteArray} {l : List UInt8} (h : a.data.toList = l) : Ending.returned (.string a) = .returned (.string ⟨l.toArray⟩) := by
  subst h
  rfl

theorem toGrown {w w' : World} (h : Below w.heap.size w w') (row : Option Nat) : w.grownBy w' row := ⟨h.os, h.tape, h.output, h.size, fun k hk _ => h.block k hk⟩

theorem ind_is {x : Bool} (s : ByteArray) (p : Int) (c a : Bool) (w : World) (hs : s.size ≤ 1048576) (hT : FoldTab w) (h0 : 0 < w.heap.size) (hx : isInd s.data.toList = x) :
    Calls Tryd.prog 24 #[.agg #[.string s, .int .i64 p, .bool c, .bool a]] w fun e w' => e = .returned (.bool x) ∧ Below w.heap.size w w' := by
  subst hx
  exact ind_any s p c a w hs hT h0

set_option maxHeartbeats 1000000 in
set_option maxRecDepth 100000 in
theorem eval_any (r c : ByteArray) (vs : List ZVal) (b cp : Nat) (w : World) (hle : r.size + c.size + vs.length + sumTo vs vs.length ≤ 1048576) (ht : Hid (∀ v ∈ vs, v.text.size ≤ 1048576)) (hb : b < w.heap.size) (hcells : Hid (Cells w b 0 vs)) (hT : Hid (FoldTab w)) (h0 : 0 < w.heap.size) :
    Calls Tryd.prog 19 #[.string r, .string c, .slice (some ⟨b, 0, none⟩) vs.length cp] w fun e w' => e = .returned (.string ⟨(evalOut r c (keptTo vs vs.length)).toArray⟩) ∧ Below w.heap.size w w' := by
  have hmm := @run_makeMap Tryd.prog
  go_enter Tryd.func19, Tryd.ntmps19
  go_wp2
  go_loopw [7, 14] (fun v i wr => ∃ (k : Nat) (D : DataW Unit) (a : Option Addr) (cap : Nat), k ≤ vs.length ∧ i = .int .i64 k ∧ v = .slice a (keptTo vs k).length cap ∧ wr.ownsMap Tryd.prog 9 (plainElem Tryd.prog 4) w.heap.size k D ∧ Seen vs k D ∧
      wr.ownsRow (w.heap.size + 1) 9 1 (.slice a (keptTo vs k).length cap) (keptTo vs k).length ((keptTo vs k).map Value.string) ∧ Below w.heap.size w wr) (fun _ i _ => vs.length - (intOf i).toNat)
  case atStart => exact ⟨0, .map [], none, 0, Nat.zero_le _, rfl, rfl, World.ownsMap_made _ _ _ _, seen_zero vs, World.ownsRow_nil _ _ _ _, (Below.refl _ _).alloc (Nat.le_refl _) _⟩
  case round =>
    obtain ⟨k, D, a, cap, hk, rfl, rfl, hmap, hseen, hown, hnx⟩ := hrel
    have HS : Hid (Seen vs k D) := hseen
    clear hseen hmm
    obtain ⟨hkl1, hkl2⟩ := keptTo_len vs k hk
    by_cases hlt : k < vs.length
    · obtain ⟨c0, c1, c2, c3⟩ := hcells.out k hlt
      have d0 := (hnx.cell (p := ⟨b, 0 + k * 4, none⟩) hb).trans c0
      have d1 := (hnx.cell (p := ⟨b, 0 + k * 4 + 1, none⟩) hb).trans c1
      have d2 := (hnx.cell (p := ⟨b, 0 + k * 4 + 2, none⟩) hb).trans c2
      have d3 := (hnx.cell (p := ⟨b, 0 + k * 4 + 3, none⟩) hb).trans c3
      simp only [Nat.zero_add] at d0 d1 d2 d3
      have htk : vs[k].text.size ≤ 1048576 := ht.out _ (List.getElem_mem hlt)
      have hbr : b < wr.heap.size := Nat.lt_of_lt_of_le hb hnx.size
      clear c0 c1 c2 c3
      by_cases hc : vs[k].constant = true
      · have hv : vs[k].live = false := by simp [ZVal.live, liveB, hc]
        have e := keptTo_no1 hlt hv
        have e2 := seen_same1 HS.out hlt hv
        have HE : Hid (keptTo vs (k + 1) = keptTo vs k ∧ Seen vs (k + 1) D) := ⟨e, e2⟩
        clear e e2 hv
        go_wp2
        exact ⟨⟨k + 1, D, a, cap, by omega, by go_num, by rw [HE.out.1], (hmap.alloc _).mono (Nat.le_succ _), HE.out.2, by rw [HE.out.1]; exact hown.alloc _, hnx.alloc hnx.size _⟩, by simp [intOf]; omega⟩
      · have hc' : vs[k].constant = false := by simpa using hc
        clear hc
        have h0r : 0 < wr.heap.size := Nat.lt_of_lt_of_le h0 hnx.size
        have hTr : Hid (∀ ob, FoldTab (wr.alloc ob)) := fun ob => (hT.out.below hnx h0).below ((Below.refl _ _).alloc (Nat.le_refl _) _) h0r
        by_cases hi : isInd vs[k].text.data.toList = true
        · have hv : vs[k].live = false := by simp [ZVal.live, liveB, hi]
          have e := keptTo_no1 hlt hv
          have e2 := seen_same1 HS.out hlt hv
          have HE : Hid (keptTo vs (k + 1) = keptTo vs k ∧ Seen vs (k + 1) D) := ⟨e, e2⟩
          clear e e2 hv
          go_wp2_with (go_at_call 24; refine (ind_is _ _ _ _ _ htk (hTr.out _) (by simp) hi).mono ?_; rintro e w1 ⟨rfl, hb1⟩)
          exact ⟨⟨k + 1, D, a, cap, by omega, by go_num, by rw [HE.out.1], ((hmap.alloc _).kept (toGrown hb1 none) (by simp)).mono (Nat.le_succ _), HE.out.2, by rw [HE.out.1]; exact own_below (hown.alloc _) hb1, (hnx.alloc hnx.size _).trans (hb1.mono (by simp; have := hnx.size; omega))⟩, by simp [intOf]; omega⟩
        · have hi' : isInd vs[k].text.data.toList = false := by simpa using hi
          clear hi
          have hv : vs[k].live = true := by simp [ZVal.live, liveB, hc', hi']
          have HV : Hid (vs[k].live = true) := hv
          clear hv
          have hml : vs[k].text.size ≤ maxLen := by unfold maxLen; omega
          go_wp2_with fail
          refine (ind_is _ _ _ _ _ htk (hTr.out _) (by simp) hi').mono ?_
          rintro e w1 ⟨rfl, hb1⟩
          have hm1 := (hmap.alloc _).kept (toGrown hb1 none) (by simp)
          have hz1 : wr.heap.size < w1.heap.size := by have := hb1.size; simp at this; omega
          have f0 : w1.cell? ⟨wr.heap.size, 0, none⟩ = some (.string vs[k].text) := (hb1.cell (p := ⟨wr.heap.size, 0, none⟩) (by simp)).trans (by simp)
          have hB1 : Below w.heap.size w w1 := (hnx.alloc hnx.size _).trans (hb1.mono (by simp; have := hnx.size; omega))
          have hown1 := own_below (hown.alloc _) hb1
          by_cases hp : keptB vs k vs[k].text = true
          · have hlk := look_bool hm1 hml ((HS.out vs[k].text).trans (by rw [hp]))
            have HE : Hid (keptTo vs (k + 1) = keptTo vs k ∧ Seen vs (k + 1) D) := ⟨keptTo_no2 hlt hp, seen_same2 HS.out hlt hp⟩
            clear hp
            go_wp2
            exact ⟨⟨k + 1, D, a, cap, by omega, by go_num, by rw [HE.out.1], hm1.mono (Nat.le_succ _), HE.out.2, by rw [HE.out.1]; exact hown1, hB1⟩, by simp [intOf]; omega⟩
          · have hp' : keptB vs k vs[k].text = false := by simpa using hp
            clear hp
            have hlk := look_bool hm1 hml ((HS.out vs[k].text).trans (by rw [hp']))
            have HE : Hid (keptTo vs (k + 1) = keptTo vs k ++ [vs[k].text] ∧ Seen vs (k + 1) (D.put (.string vs[k].text.data.toList) (.lit (.bool true)))) := ⟨keptTo_yes hlt HV.out hp', seen_put HS.out hmap.isMap hlt HV.out⟩
            clear hp'
            go_wp2_with (first
              | (at_mapUpdate; refine wpList_mapUpdate_own _ rfl _ _ _ 52 rfl 9 4 law9 Tryd.underlying52 _ w.heap.size k _ rfl hm1 (by unfold maxLen; omega) _ _ _ rfl rfl (keyOf_string_mk Tryd.underlying9 hml) _ [] (plainElem_bool Tryd.underlying4 true) ?_; intro w2 hm2 hg2; have f2 := hg2.cell f0 (by simp; have := hnx.size; have := hmap.lt; omega))
              | (at_builtin; refine app_text w2 (by rfl) _ _ (by rfl) (w.heap.size + 1) _ _ vs[k].text (by rfl) (own_kept hown1 hg2) (by have := hg2.size; have := hnx.size; omega) (by rfl) (by omega) ?_; intro a' c' w3 hown3 hg3))
            have hB2 : Below w.heap.size w w2 := hB1.grown hg2 hB1.size (fun j h => by cases h; exact Nat.le_refl _)
            have hB3 : Below w.heap.size w w3 := hB2.grown hg3 hB2.size (fun j h => by have := own_base hown1 j h; omega)
            have hm3 := hm2.kept hg3 (fun e => by have := own_base hown1 _ e.symm; omega)
            refine ⟨⟨k + 1, _, a', c', by omega, by go_num, ?_, hm3, HE.out.2, ?_, hB3⟩, by simp [intOf]; omega⟩
            · rw [HE.out.1, List.length_append]; rfl
            · rw [HE.out.1]; exact hown3
    · obtain rfl : k = vs.length := by omega
      clear HS hmap
      have hjl := joined_len (keptTo vs vs.length)
      by_cases hne : keptTo vs vs.length = []
      · have hn0 : (((keptTo vs vs.length).length : Int) == 0) = true := by rw [hne]; rfl
        have HN : Hid (keptTo vs vs.length = []) := hne
        clear hne
        by_cases hce : c.toList.isEmpty = true
        · have e : Hid (evalOut r c (keptTo vs vs.length) = []) := by
            rw [Lib.toList_data] at hce
            show evalOut r c (keptTo vs vs.length) = []
            rw [HN.out]; exact evalOut_nil r c hce
          go_wp2
          go_ret
          refine ⟨?_, hnx⟩
          rw [e.out]; rfl
        · have hce' : c.toList.isEmpty = false := by simpa using hce
          have e : Hid (evalOut r c (keptTo vs vs.length) = sel ++ joined [] ++ [49] ++ frm ++ r.data.toList ++ c.data.toList) := by
            rw [Lib.toList_data] at hce'
            show evalOut r c (keptTo vs vs.length) = _
            rw [HN.out]; exact evalOut_one r c hce'
          clear hce
          go_wp2_with fail
          refine (join_one wr).mono ?_
          rintro e1 w1 ⟨rfl, hb1⟩
          go_wp2
          go_ret
          exact ⟨ret_ba (by rw [e.out]; simp [ByteArray.data_append, sel, frm, joined_nil]), hnx.trans (hb1.mono hnx.size)⟩
      · have hn0 : (((keptTo vs vs.length).length : Int) == 0) = false := by rw [beq_eq_false_iff_ne]; have := List.length_pos_iff.2 hne; omega
        have e : Hid (evalOut r c (keptTo vs vs.length) = sel ++ joined (keptTo vs vs.length) ++ frm ++ r.data.toList ++ c.data.toList) := evalOut_some r c hne
        clear hne
        have hjb : (joined (keptTo vs vs.length)).length ≤ 4000000 := by omega
        have HJ : Hid (keptTo vs vs.length ≠ []) := fun h => by rw [h] at hn0; simp at hn0
        go_wp2_with fail
        refine (join_own _ _ _ _ _ hown HJ.out (by omega)).mono ?_
        rintro e1 w1 ⟨rfl, hb1⟩
        generalize joined (keptTo vs vs.length) = js at *
        go_wp2
        go_ret
        exact ⟨ret_ba (by rw [e.out]; simp [ByteArray.data_append, sel, frm]), hnx.trans (hb1.mono hnx.size)⟩
end Go.Proofs.Qxb6606343aDoor
