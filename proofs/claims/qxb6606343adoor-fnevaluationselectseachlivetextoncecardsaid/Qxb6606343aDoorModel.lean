/-
  THE WALK of 'modelEvaluation' (15).
-/
import Derived.Test.Qxb6606343aDoorKept
import Derived.Lib.AppendStr
import Derived.Lib.Join
import Derived.Laws.BytesArg
import Derived.Lib.Strings
namespace Go.Proofs.Qxb6606343aDoor
open Go.RowKit

/-- The distinct texts of the live values among the first k, first seen first. -/
def keptTo (vs : List ZVal) : Nat → List ByteArray
  | 0 => []
  | k + 1 => match vs[k]? with
    | some v => if v.live && !keptB vs k v.text then keptTo vs k ++ [v.text] else keptTo vs k
    | none => keptTo vs k

theorem keptTo_yes {vs : List ZVal} {k : Nat} (h : k < vs.length) (h1 : vs[k].live = true) (h2 : keptB vs k vs[k].text = false) : keptTo vs (k + 1) = keptTo vs k ++ [vs[k].text] := by
  simp [keptTo, h, h1, h2]
theorem keptTo_no1 {vs : List ZVal} {k : Nat} (h : k < vs.length) (h1 : vs[k].live = false) : keptTo vs (k + 1) = keptTo vs k := by
  simp [keptTo, h, h1]
theorem keptTo_no2 {vs : List ZVal} {k : Nat} (h : k < vs.length) (h2 : keptB vs k vs[k].text = true) : keptTo vs (k + 1) = keptTo vs k := by
  simp [keptTo, h, h2]

theorem keptTo_len (vs : List ZVal) : ∀ k, k ≤ vs.length → (keptTo vs k).length ≤ k ∧ ((keptTo vs k).map (·.size)).sum ≤ sumTo vs k
  | 0, _ => by simp [keptTo]
  | k + 1, hk => by
    obtain ⟨h1, h2⟩ := keptTo_len vs k (by omega)
    have hl : k < vs.length := by omega
    have hs := sum_snoc vs k hl
    simp only [keptTo, List.getElem?_eq_getElem hl]
    split
    · simp; omega
    · exact ⟨by omega, by omega⟩

def comma : List UInt8 := [44, 32]
/-- The texts, joined by a comma and a blank. -/
def joined (ks : List ByteArray) : List UInt8 := Lib.join (ks.map (·.data.toList)) comma

theorem joined_nil : joined [] = [] := rfl
theorem joined_one (t : ByteArray) : joined [t] = t.data.toList := by simp [joined, Lib.join_one]
theorem joined_snoc (k : ByteArray) (ks : List ByteArray) (t : ByteArray) : joined (k :: ks ++ [t]) = joined (k :: ks) ++ comma ++ t.data.toList := by
  simp [joined, Lib.join_cons, Lib.joinTail]
theorem joined_snoc' (ks : List ByteArray) (t : ByteArray) (h : ks ≠ []) : joined (ks ++ [t]) = joined ks ++ comma ++ t.data.toList := by
  cases ks with
  | nil => exact absurd rfl h
  | cons k ks => exact joined_snoc k ks t
theorem joined_len : ∀ (ks : List ByteArray), (joined ks).length ≤ 2 * ks.length + (ks.map (·.size)).sum
  | [] => by simp [joined, Lib.join_nil]
  | k :: ks => by
    have h := Lib.join_length k.data.toList (ks.map (·.data.toList)) comma
    have e : Lib.lens ((k :: ks).map (·.data.toList)) = ((k :: ks).map (·.size)).sum := by
      unfold Lib.lens
      rw [List.map_map]
      rfl
    have h' : (joined (k :: ks)).length = 2 * ks.length + ((k :: ks).map (·.size)).sum := by
      rw [← e]
      simpa [joined, comma] using h
    rw [h']
    simp
    omega

def sel : List UInt8 := [83, 69, 76, 69, 67, 84, 32]
def frm : List UInt8 := [32, 70, 82, 79, 77, 32]
/-- What 'evaluation' gives. -/
def evalOut (r c : ByteArray) (ks : List ByteArray) : List UInt8 :=
  if ks.isEmpty then (if c.data.toList.isEmpty then [] else sel ++ [49] ++ frm ++ r.data.toList ++ c.data.toList) else sel ++ joined ks ++ frm ++ r.data.toList ++ c.data.toList

/-- Bytes as cells. -/
def bcells (l : List UInt8) : List Value := l.map fun b => Value.int .u8 b.toNat
theorem bcells_append (a b : List UInt8) : bcells (a ++ b) = bcells a ++ bcells b := by simp [bcells]
theorem strCells_eq (s : ByteArray) : Lib.strCells s = bcells s.data.toList := rfl

theorem info5 : (Tryd.prog.info? 5).map (fun i => (i.zero, i.size, i.bytes)) = some (some (.int .u8 0), 1, 1) := by kernel_rfl

/-- 'string(out)' of a row of bytes that the call owns. -/
theorem conv_own {w : World} {base : Nat} {v : Value} {l : List UInt8} (h : w.ownsRow base 5 1 v l.length (bcells l)) : (convert 39 9 v).run Tryd.prog w = .ok (.string ⟨l.toArray⟩) w := by
  obtain ⟨hl, ⟨rfl, h0⟩ | ⟨g, cap, cur, rfl, _, hg, hn, _, hsz, hcur⟩⟩ := h
  · obtain rfl : l = [] := List.eq_nil_of_length_eq_zero h0
    exact run_convert_bytes_nil w 39 5 Tryd.underlying39 Tryd.underlying5 0 0 9 Tryd.underlying9
  · have hc : ∀ i, i < l.length → w.cell? ⟨g, 0 + i, none⟩ = some (.int .u8 ((l.map fun b => (b.toNat : Int)).getD i 0)) := by
      intro i hi
      have hlt : i < cur.size := by omega
      have e1 : cur.toList[i]? = (bcells l)[i]? := by rw [← hcur, List.getElem?_take_of_lt (by omega)]
      rw [Nat.zero_add]
      have e2 : w.cell? ⟨g, i, none⟩ = cur[i]? := by simp [World.cell?, hg]
      rw [e2, ← Array.getElem?_toList, e1]
      simp [bcells, hi]
    have := run_convert_bytes_arg (P := Tryd.prog) w 39 5 Tryd.underlying39 Tryd.underlying5 g 0 l.length cap (l.map fun b => (b.toNat : Int)) (by simp) hc 9 Tryd.underlying9
    have e : ∀ l : List UInt8, (l.map fun b => (b.toNat : Int)).map (fun n => UInt8.ofNat n.toNat) = l := by
      intro l
      rw [List.map_map]
      conv => rhs; rw [← List.map_id l]
      apply List.map_congr_left
      intro b _
      simp
    rw [this, show strOfNums (l.map fun b => (b.toNat : Int)) = ⟨l.toArray⟩ by unfold strOfNums; rw [e]]

theorem own_base {w : World} {base : Nat} {e : TypeId} {size n : Nat} {v : Value} {xs : List Value} (h : w.ownsRow base e size v n xs) : ∀ k, v.ownBlock = some k → base ≤ k := by
  intro k hk
  obtain ⟨_, ⟨rfl, _⟩ | ⟨g, cap, cur, rfl, hg, _⟩⟩ := h
  · simp [Value.ownBlock] at hk
  · simp [Value.ownBlock] at hk
    omega

theorem sz_eq (s : ByteArray) : s.size = s.data.toList.length := by simp only [Array.length_toList]; rfl

/-- 'out = append(out, s...)', s a string, at the operation. -/
theorem app_str {ops : Array Oper} {rest : List Oper} {o : Oper} {a : Act} {Q : Exit → Act → World → Prop} (w : World) (hgd : o.guard = none) (sl x : Operand)
    (ho : o.op = .call { callee := .builtin .append, args := #[sl, x], argTypes := #[39, 9] }) (w0 : World) (v : Value) (l : List UInt8) (hs : a.eval sl = v) (hown : w.ownsRow w0.heap.size 5 1 v l.length (bcells l))
    (hB : Below w0.heap.size w0 w) (s : ByteArray) (hx : a.eval x = .string s) (hlen : l.length + s.size ≤ 140737488355328)
    (h : ∀ v' w', w'.ownsRow w0.heap.size 5 1 v' (l ++ s.data.toList).length (bcells (l ++ s.data.toList)) → Below w0.heap.size w0 w' → wpList Tryd.prog ops Q rest (a.put o.dst v') w') : wpList Tryd.prog ops Q (o :: rest) a w := by
  obtain ⟨i0, hi, hz0, hz1, hz2⟩ := info_parts info5
  refine Lib.wpList_append_own_string w hgd sl x 39 9 ho w0.heap.size 5 i0 Tryd.underlying39 Tryd.underlying9 hi hz0 hz1 hz2 v l.length (bcells l) hs hown s hx (by unfold maxLen; omega) hlen hB.size ?_
  intro v' w' h1 h2 _
  refine h v' w' ?_ (hB.grown h2 hB.size (own_base hown))
  rw [strCells_eq, ← bcells_append] at h1
  rwa [List.length_append, ← sz_eq]

/-- 'out = append(out, 'x')', a byte's constant, at the operation: the one-cell slice lies in the world's last block. -/
theorem app_one {ops : Array Oper} {rest : List Oper} {o : Oper} {a : Act} {Q : Exit → Act → World → Prop} (w : World) (hgd : o.guard = none) (sl x : Operand)
    (ho : o.op = .call { callee := .builtin .append, args := #[sl, x], argTypes := #[39, 39] }) (w0 : World) (v : Value) (l : List UInt8) (q : UInt8) (z : Int) (hzq : z = q.toNat) (hs : a.eval sl = v) (hown : w.ownsRow w0.heap.size 5 1 v l.length (bcells l))
    (hB : Below w0.heap.size w0 w) (hx : a.eval x = .slice (some ⟨w.heap.size, 0, none⟩) 1 1) (hlen : l.length + 1 ≤ 140737488355328)
    (h : ∀ v' w', w'.ownsRow w0.heap.size 5 1 v' (l ++ [q]).length (bcells (l ++ [q])) → Below w0.heap.size w0 w' → wpList Tryd.prog ops Q rest (a.put o.dst v') w') : wpList Tryd.prog ops Q (o :: rest) a (w.alloc (.cells #[.int .u8 z] 5)) := by
  subst hzq
  obtain ⟨i0, hi, hz0, hz1, hz2⟩ := info_parts info5
  have hB' := hB.alloc hB.size (.cells #[.int .u8 q.toNat] 5)
  have hown' : (w.alloc (.cells #[.int .u8 q.toNat] 5)).ownsRow w0.heap.size 5 1 v l.length (bcells l) := hown.alloc _
  refine wpList_append_own (w.alloc (.cells #[.int .u8 q.toNat] 5)) hgd sl x 39 ho w0.heap.size 5 i0 (.int .u8 0) 1 1 Tryd.underlying39 hi hz0 hz1 hz2 rfl (by decide) v l.length (bcells l) hs hown' ⟨w.heap.size, 0, none⟩ 1 1 [.int .u8 q.toNat] hx rfl (cell_one_new _ _ _) (by simp [Value.oneCell']) (by unfold maxLen; omega) (by omega) hB'.size ?_
  intro v' w' h1 h2 _
  refine h v' w' ?_ (hB'.grown h2 hB'.size (own_base hown'))
  rw [bcells_append]
  rwa [List.length_append]

theorem app_strN {ops : Array Oper} {rest : List Oper} {o : Oper} {a : Act} {Q : Exit → Act → World → Prop} (w : World) (hgd : o.guard = none) (sl x : Operand)
    (ho : o.op = .call { callee := .builtin .append, args := #[sl, x], argTypes := #[39, 9] }) (w0 : World) (v : Value) (l : List UInt8) (hs : a.eval sl = v) (hown : w.ownsRow w0.heap.size 5 1 v l.length (bcells l))
    (hB : Below w0.heap.size w0 w) (s : ByteArray) (hx : a.eval x = .string s) (N : Nat) (hN : l.length ≤ N) (hN2 : N ≤ 100000000) (hs2 : s.size ≤ 2000000)
    (h : ∀ v' w', w'.ownsRow w0.heap.size 5 1 v' (l ++ s.data.toList).length (bcells (l ++ s.data.toList)) → Below w0.heap.size w0 w' → (l ++ s.data.toList).length ≤ N + 2000000 → wpList Tryd.prog ops Q rest (a.put o.dst v') w') : wpList Tryd.prog ops Q (o :: rest) a w :=
  app_str w hgd sl x ho w0 v l hs hown hB s hx (by omega) fun v' w' h1 h2 => h v' w' h1 h2 (by rw [List.length_append, ← sz_eq]; omega)
theorem len_snoc {l : List UInt8} {N : Nat} (q : UInt8) (h : l.length ≤ N) : (l ++ [q]).length ≤ N + 1 := by simp; omega

theorem evalOut_nil (r c : ByteArray) (h : c.data.toList.isEmpty = true) : evalOut r c [] = [] := by
  unfold evalOut
  rw [if_pos (by rfl), if_pos h]
theorem evalOut_one (r c : ByteArray) (h : c.data.toList.isEmpty = false) : evalOut r c [] = sel ++ joined [] ++ [49] ++ frm ++ r.data.toList ++ c.data.toList := by
  unfold evalOut
  rw [if_pos (by rfl), if_neg (by rw [h]; decide), joined_nil, List.append_nil]
theorem evalOut_some (r c : ByteArray) {ks : List ByteArray} (h : ks ≠ []) : evalOut r c ks = sel ++ joined ks ++ frm ++ r.data.toList ++ c.data.toList := by
  unfold evalOut
  rw [if_neg (by simpa using h)]

theorem ret_str {a b : List UInt8} (h : a = b) : Ending.returned (.string ⟨a.toArray⟩) = .returned (.string ⟨b.toArray⟩) := by rw [h]

theorem own_below {w w' : World} {base : Nat} {e : TypeId} {size n : Nat} {v : Value} {xs : List Value} (h : w.ownsRow base e size v n xs) (hb : Below w.heap.size w w') : w'.ownsRow base e size v n xs := by
  obtain ⟨hl, h0 | ⟨g, cap, cur, hv, hg, hgh, h1⟩⟩ := h
  · exact ⟨hl, .inl h0⟩
  · have hlt : g < w.heap.size := by
      rcases Nat.lt_or_ge g w.heap.size with hh | hh
      · exact hh
      · rw [Array.getElem?_eq_none hh] at hgh; cases hgh
    exact ⟨hl, .inr ⟨g, cap, cur, hv, hg, (hb.block g hlt).trans hgh, h1⟩⟩

theorem Cells.below {w w' : World} {b o : Nat} {vs : List ZVal} (h : Cells w b o vs) (hb : b < w.heap.size) (hB : Below w.heap.size w w') : Cells w' b o vs := by
  intro j hj
  obtain ⟨h0, h1, h2, h3⟩ := h j hj
  exact ⟨(hB.cell (p := ⟨b, _, none⟩) hb).trans h0, (hB.cell (p := ⟨b, _, none⟩) hb).trans h1, (hB.cell (p := ⟨b, _, none⟩) hb).trans h2, (hB.cell (p := ⟨b, _, none⟩) hb).trans h3⟩

theorem kept_is {x : Bool} (vs : List ZVal) (i : Nat) (b o cp : Nat) (w : World) (hi : i < vs.length) (hn : vs.length ≤ 1048576) (ht : Hid (∀ v ∈ vs, v.text.size ≤ 1048576)) (hb : b < w.heap.size) (hcells : Hid (Cells w b o vs)) (hx : keptB vs i vs[i].text = x) :
    Calls Tryd.prog 21 #[.slice (some ⟨b, o, none⟩) vs.length cp, .int .i64 i] w fun e w' => e = .returned (.bool x) ∧ Below w.heap.size w w' := by
  subst hx
  exact kept_any vs i b o cp w hi hn ht hb hcells

set_option maxHeartbeats 1000000 in
set_option maxRecDepth 100000 in
theorem model_ne (r c : ByteArray) (vs : List ZVal) (b o cp : Nat) (w : World) (hle : r.size + c.size + vs.length + sumTo vs vs.length ≤ 1048576) (ht : Hid (∀ v ∈ vs, v.text.size ≤ 1048576)) (hb : b < w.heap.size) (hcells : Hid (Cells w b o vs)) :
    Calls Tryd.prog 15 #[.string r, .string c, .slice (some ⟨b, o, none⟩) vs.length cp] w fun e w' => e = .returned (.string ⟨(evalOut r c (keptTo vs vs.length)).toArray⟩) ∧ Below w.heap.size w w' := by
  obtain ⟨i0, hi, hz0, hz1, hz2⟩ := info_parts info5
  have HI : Hid (Tryd.prog.info? 5 = some i0 ∧ i0.zero = some (.int .u8 0) ∧ i0.size = 1 ∧ i0.bytes = 1) := ⟨hi, hz0, hz1, hz2⟩
  clear hi hz0 hz1 hz2
  go_enter Tryd.func15, Tryd.ntmps15
  go_wp2_with (first
    | (at_make; refine wpList_make_own _ rfl _ _ 39 rfl w.heap.size 5 i0 (.int .u8 0) 1 Tryd.underlying39 HI.out.1 HI.out.2.1 HI.out.2.2.1 .i64 .i64 16 16 rfl rfl rfl (by rw [HI.out.2.2.2]; omega) (by decide) (Nat.le_refl _) ?_; intro w1 hown1 hgrow1; have hB1 : Below w.heap.size w w1 := (Below.refl _ w).grown hgrow1 (Nat.le_refl _) (fun k h => by cases h))
    | (at_builtin; refine app_str _ rfl _ _ rfl w _ [] rfl hown1 hB1 _ rfl (by decide) ?_; intro v2 w2 hown2 hB2))
  go_loopw [7, 8, 9] (fun v n i wr => ∃ k : Nat, k ≤ vs.length ∧ i = .int .i64 k ∧ n = .int .i64 (keptTo vs k).length ∧ wr.ownsRow w.heap.size 5 1 v (sel ++ joined (keptTo vs k)).length (bcells (sel ++ joined (keptTo vs k))) ∧ Below w.heap.size w wr) (fun _ _ i _ => vs.length - (intOf i).toNat)
  case atStart => exact ⟨0, Nat.zero_le _, rfl, rfl, hown2, hB2⟩
  case round =>
    obtain ⟨k, hk, rfl, rfl, hown, hnx⟩ := hrel
    clear hown2 hB2 hown1 hB1 hgrow1
    obtain ⟨hkl1, hkl2⟩ := keptTo_len vs k hk
    have hjl := joined_len (keptTo vs k)
    have hsl := sum_le vs k
    have hsel : (sel ++ joined (keptTo vs k)).length ≤ 4000000 := by rw [List.length_append]; have : sel.length = 7 := rfl; omega
    by_cases hlt : k < vs.length
    · obtain ⟨c0, c1, c2, c3⟩ := hcells.out k hlt
      have d0 := (hnx.cell (p := ⟨b, o + k * 4, none⟩) hb).trans c0
      have d1 := (hnx.cell (p := ⟨b, o + k * 4 + 1, none⟩) hb).trans c1
      have d2 := (hnx.cell (p := ⟨b, o + k * 4 + 2, none⟩) hb).trans c2
      have d3 := (hnx.cell (p := ⟨b, o + k * 4 + 3, none⟩) hb).trans c3
      have htk : vs[k].text.size ≤ 1048576 := ht.out _ (List.getElem_mem hlt)
      have hbr : b < wr.heap.size := Nat.lt_of_lt_of_le hb hnx.size
      have hcr : Hid (Cells wr b o vs) := hcells.out.below hb hnx
      have hc0 : Hid (w.cell? ⟨b, o + k * 4, none⟩ = some (.string vs[k].text)) := c0
      clear c0 c1 c2 c3
      by_cases hv : vs[k].live = true
      · by_cases hp : keptB vs k vs[k].text = true
        · go_wp2_with (first
            | (go_at_call 20; refine (live_is _ _ _ _ _ htk hv).mono ?_; rintro e w1 ⟨rfl, hb1⟩)
            | (go_at_call 21; refine (kept_is vs k b o cp _ hlt (by omega) ht (Nat.lt_of_lt_of_le hbr hb1.size) (hcr.out.below hbr hb1) hp).mono ?_; rintro e w2 ⟨rfl, hb2⟩))
          have e := keptTo_no2 hlt hp
          exact ⟨⟨k + 1, by omega, by go_num, by rw [e], by rw [e]; exact own_below (own_below hown hb1) hb2, (hnx.trans (hb1.mono hnx.size)).trans (hb2.mono (Nat.le_trans hnx.size hb1.size))⟩, by simp [intOf]; omega⟩
        · have hp' : keptB vs k vs[k].text = false := by simpa using hp
          have e : Hid (keptTo vs (k + 1) = keptTo vs k ++ [vs[k].text]) := keptTo_yes hlt hv hp'
          clear hp
          by_cases hne : keptTo vs k = []
          · have hn0 : (keptTo vs k).length = 0 := by rw [hne]; rfl
            have HN : Hid (keptTo vs k = []) := hne
            clear hne
            go_wp2_with (first
              | (go_at_call 20; refine (live_is _ _ _ _ _ htk hv).mono ?_; rintro e w1 ⟨rfl, hb1⟩)
              | (go_at_call 21; refine (kept_is vs k b o cp _ hlt (by omega) ht (Nat.lt_of_lt_of_le hbr hb1.size) (hcr.out.below hbr hb1) hp').mono ?_; rintro e w2 ⟨rfl, hb2⟩; have hB2 : Below w.heap.size w w2 := (hnx.trans (hb1.mono hnx.size)).trans (hb2.mono (Nat.le_trans hnx.size hb1.size)); have f0 := (hB2.cell (p := ⟨b, o + k * 4, none⟩) hb).trans hc0.out)
              | (at_builtin; refine app_str _ rfl _ _ rfl w _ _ rfl (own_below (own_below hown hb1) hb2) hB2 _ rfl (by omega) ?_; intro v3 w3 hown3 hB3))
            refine ⟨⟨k + 1, by omega, by go_num, ?_, ?_, hB3⟩, by simp [intOf]; omega⟩
            · rw [e.out, List.length_append, hn0]; rfl
            · have : sel ++ joined (keptTo vs (k + 1)) = sel ++ joined (keptTo vs k) ++ vs[k].text.data.toList := by
                rw [e.out, HN.out, List.nil_append, joined_one, joined_nil, List.append_nil]
              rw [this]
              exact hown3
          · have hn0 : 0 < (keptTo vs k).length := List.length_pos_iff.2 hne
            have HN : Hid (keptTo vs k ≠ []) := hne
            clear hne
            go_wp2_with (first
              | (go_at_call 20; refine (live_is _ _ _ _ _ htk hv).mono ?_; rintro e w1 ⟨rfl, hb1⟩)
              | (go_at_call 21; refine (kept_is vs k b o cp _ hlt (by omega) ht (Nat.lt_of_lt_of_le hbr hb1.size) (hcr.out.below hbr hb1) hp').mono ?_; rintro e w2 ⟨rfl, hb2⟩; have hB2 : Below w.heap.size w w2 := (hnx.trans (hb1.mono hnx.size)).trans (hb2.mono (Nat.le_trans hnx.size hb1.size)))
              | (at_builtin; refine app_str _ rfl _ _ rfl w _ _ rfl hown3 hB3 _ rfl (by have h2 : (ByteArray.mk #[(44 : UInt8), 32]).data.toList.length = 2 := rfl; rw [List.length_append, h2]; omega) ?_; intro v4 w4 hown4 hB4)
              | (at_builtin; refine app_str _ rfl _ _ rfl w _ _ rfl (own_below (own_below hown hb1) hb2) hB2 _ rfl (by have : (ByteArray.mk #[(44 : UInt8), 32]).size = 2 := rfl; omega) ?_; intro v3 w3 hown3 hB3; have f0 := (hB3.cell (p := ⟨b, o + k * 4, none⟩) hb).trans hc0.out))
            refine ⟨⟨k + 1, by omega, by go_num, ?_, ?_, hB4⟩, by simp [intOf]; omega⟩
            · rw [e.out, List.length_append]; go_num
            · have : sel ++ joined (keptTo vs (k + 1)) = sel ++ joined (keptTo vs k) ++ [44, 32] ++ vs[k].text.data.toList := by
                rw [e.out, joined_snoc' _ _ HN.out, comma]
                simp
              rw [this]
              exact hown4
      · have hv' : vs[k].live = false := by simpa using hv
        clear hv
        go_wp2_with (first
          | (go_at_call 20; refine (live_is _ _ _ _ _ htk hv').mono ?_; rintro e w1 ⟨rfl, hb1⟩))
        have e := keptTo_no1 hlt hv'
        exact ⟨⟨k + 1, by omega, by go_num, by rw [e], by rw [e]; exact own_below hown hb1, hnx.trans (hb1.mono hnx.size)⟩, by simp [intOf]; omega⟩
    · obtain rfl : k = vs.length := by omega
      by_cases hne : keptTo vs vs.length = []
      · have hn0 : (((keptTo vs vs.length).length : Int) == 0) = true := by rw [hne]; rfl
        have HN : Hid (keptTo vs vs.length = []) := hne
        clear hne
        by_cases hce : c.toList.isEmpty = true
        · have e : Hid (evalOut r c (keptTo vs vs.length) = []) := by
            rw [Lib.toList_data] at hce
            show evalOut r c (keptTo vs vs.length) = []
            rw [HN.out]; exact evalOut_nil r c hce
          go_wp2
          go_ret
          refine ⟨?_, hnx⟩
          rw [e.out]; rfl
        · have hce' : c.toList.isEmpty = false := by simpa using hce
          have e : Hid (evalOut r c (keptTo vs vs.length) = sel ++ joined (keptTo vs vs.length) ++ [49] ++ frm ++ r.data.toList ++ c.data.toList) := by
            rw [Lib.toList_data] at hce'
            show evalOut r c (keptTo vs vs.length) = _
            rw [HN.out]; exact evalOut_one r c hce'
          clear hce
          go_wp2_with (first
            | (at_builtin; refine app_strN _ rfl _ _ rfl w _ _ rfl hown5 hB5 _ rfl 8000001 hN5 (by decide) (by omega) ?_; intro v6 w6 hown6 hB6 hN6; have hcv := conv_own hown6)
            | (at_builtin; refine app_strN _ rfl _ _ rfl w _ _ rfl hown4 hB4 _ rfl 6000001 hN4 (by decide) (by omega) ?_; intro v5 w5 hown5 hB5 hN5)
            | (at_builtin; refine app_strN _ rfl _ _ rfl w _ _ rfl hown3 hB3 _ rfl 4000001 hN3 (by decide) (by decide) ?_; intro v4 w4 hown4 hB4 hN4)
            | (at_builtin; refine app_one wr (by rfl) (.tmp 47) (.tmp 48) (by rfl) w u7 _ 49 49 (by decide) (by rfl) hown hnx (by rfl) (by omega) ?_; intro v3 w3 hown3 hB3; have hN3 := len_snoc 49 hsel))
          go_ret
          exact ⟨ret_str (by rw [e.out]; simp [frm]), hB6⟩
      · have hn0 : (((keptTo vs vs.length).length : Int) == 0) = false := by rw [beq_eq_false_iff_ne]; have := List.length_pos_iff.2 hne; omega
        have e : Hid (evalOut r c (keptTo vs vs.length) = sel ++ joined (keptTo vs vs.length) ++ frm ++ r.data.toList ++ c.data.toList) := evalOut_some r c hne
        clear hne
        go_wp2_with (first
          | (at_builtin; refine app_strN _ rfl _ _ rfl w _ _ rfl hown4 hB4 _ rfl 8000000 hN4 (by decide) (by omega) ?_; intro v5 w5 hown5 hB5 hN5; have hcv := conv_own hown5)
          | (at_builtin; refine app_strN _ rfl _ _ rfl w _ _ rfl hown3 hB3 _ rfl 6000000 hN3 (by decide) (by omega) ?_; intro v4 w4 hown4 hB4 hN4)
          | (at_builtin; refine app_strN _ rfl _ _ rfl w _ _ rfl hown hnx _ rfl 4000000 hsel (by decide) (by decide) ?_; intro v3 w3 hown3 hB3 hN3))
        go_ret
        exact ⟨ret_str (by rw [e.out]; simp [frm]), hB5⟩

set_option maxHeartbeats 1000000 in
set_option maxRecDepth 100000 in
theorem model_no (r c : ByteArray) (a : Option Addr) (cp : Nat) (w : World) (hle : r.size + c.size ≤ 1048576) :
    Calls Tryd.prog 15 #[.string r, .string c, .slice a 0 cp] w fun e w' => e = .returned (.string ⟨(evalOut r c []).toArray⟩) ∧ Below w.heap.size w w' := by
  obtain ⟨i0, hi, hz0, hz1, hz2⟩ := info_parts info5
  have HI : Hid (Tryd.prog.info? 5 = some i0 ∧ i0.zero = some (.int .u8 0) ∧ i0.size = 1 ∧ i0.bytes = 1) := ⟨hi, hz0, hz1, hz2⟩
  clear hi hz0 hz1 hz2
  have hsel : ([] ++ (ByteArray.mk #[83, 69, 76, 69, 67, 84, 32]).data.toList).length ≤ 4000000 := by decide
  go_enter Tryd.func15, Tryd.ntmps15
  go_wp2_with (first
    | (at_make; refine wpList_make_own _ rfl _ _ 39 rfl w.heap.size 5 i0 (.int .u8 0) 1 Tryd.underlying39 HI.out.1 HI.out.2.1 HI.out.2.2.1 .i64 .i64 16 16 rfl rfl rfl (by rw [HI.out.2.2.2]; omega) (by decide) (Nat.le_refl _) ?_; intro w1 hown1 hgrow1; have hB1 : Below w.heap.size w w1 := (Below.refl _ w).grown hgrow1 (Nat.le_refl _) (fun k h => by cases h))
    | (at_builtin; refine app_str _ rfl _ _ rfl w _ [] rfl hown1 hB1 _ rfl (by decide) ?_; intro v2 w2 hown2 hB2))
  refine wp_loop_rounds 1 ?_
  rw [rounds_succ]
  by_cases hce : c.toList.isEmpty = true
  · have e : Hid (evalOut r c [] = []) := by
      rw [Lib.toList_data] at hce
      exact evalOut_nil r c hce
    go_wp2
    go_ret
    refine ⟨?_, hB2⟩
    rw [e.out]; rfl
  · have hce' : c.toList.isEmpty = false := by simpa using hce
    have e : Hid (evalOut r c [] = sel ++ joined [] ++ [49] ++ frm ++ r.data.toList ++ c.data.toList) := by
      rw [Lib.toList_data] at hce'
      exact evalOut_one r c hce'
    clear hce
    clear hown1 hB1 hgrow1
    go_wp2_with (first
      | (at_builtin; refine app_strN _ rfl _ _ rfl w _ _ rfl hown5 hB5 _ rfl 8000001 hN5 (by decide) (by omega) ?_; intro v6 w6 hown6 hB6 hN6; have hcv := conv_own hown6)
      | (at_builtin; refine app_strN _ rfl _ _ rfl w _ _ rfl hown4 hB4 _ rfl 6000001 hN4 (by decide) (by omega) ?_; intro v5 w5 hown5 hB5 hN5)
      | (at_builtin; refine app_strN _ rfl _ _ rfl w _ _ rfl hown3 hB3 _ rfl 4000001 hN3 (by decide) (by decide) ?_; intro v4 w4 hown4 hB4 hN4)
      | (at_builtin; refine app_one w2 (by rfl) (.tmp 47) (.tmp 48) (by rfl) w v2 _ 49 49 (by decide) (by rfl) hown2 hB2 (by rfl) (by omega) ?_; intro v3 w3 hown3 hB3; have hN3 := len_snoc 49 hsel))
    go_ret
    exact ⟨ret_str (by rw [e.out]; simp [frm, sel, joined_nil]), hB6⟩
end Go.Proofs.Qxb6606343aDoor
