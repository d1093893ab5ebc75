/-
  Seat b6003829aD: the walk of the first law (3).
-/
import Derived.Test.Qxb6003829aDoorTiles
namespace Go.Proofs.Qxb6003829aDoor
open Go.RowKit Go.Lib

theorem ar_part {ms : List Mem} {i : Nat} (hi : i < ms.length) (hok : ms[i].Ok) : part (ar ms) ((arTo ms i).length + 60) ms[i].data.length = ms[i].data := by
  obtain ⟨r, hr⟩ := arTo_prefix ms (i + 1)
  rw [arTo_succ hi] at hr
  unfold part
  rw [hr, ← List.drop_drop, List.append_assoc, List.drop_left]
  unfold body
  rw [List.append_assoc, ← hdr_len hok, List.drop_left, List.append_assoc, List.take_left]

theorem data_in {ms : List Mem} {i : Nat} (hi : i < ms.length) (hok : ms[i].Ok) : (arTo ms i).length + 60 + ms[i].data.length ≤ (ar ms).length := by
  have h1 := arTo_len_succ hi hok
  have h2 : (arTo ms (i + 1)).length ≤ (ar ms).length := arTo_le (by omega) (Nat.le_refl _)
  omega

/-- The cells of a member that was read out of an encoded archive. -/
def LAt (w : World) (B i : Nat) (m : Mem) (off : Nat) : Prop := ∃ a cp, w.cell? ⟨B, i * 3, none⟩ = some (.string ⟨m.name.toArray⟩) ∧ w.cell? ⟨B, i * 3 + 1, none⟩ = some (.int .i64 (off : Int)) ∧ w.cell? ⟨B, i * 3 + 2, none⟩ = some (.slice (some a) m.data.length cp) ∧ Sl w (some a) m.data
theorem LAt.below {w w' : World} {B i : Nat} {m : Mem} {off : Nat} (h : LAt w B i m off) (hB : Below w.heap.size w w') : LAt w' B i m off := by
  obtain ⟨a, cp, h0, h1, h2, h3⟩ := h
  exact ⟨a, cp, cell_below hB h0, cell_below hB h1, cell_below hB h2, h3.below hB⟩

theorem list_at {w : World} {ms : List Mem} {L : List (Got × Value)} {B g : Nat} (hZ : ZCells w B L) (hB : Bs w g 0 (ar ms)) (hD : ∀ x ∈ L, DataAt g 0 x.1 x.2) (hq : ∀ (q : Nat) (_ : q < (L.map Prod.fst).length) (hq' : q < ms.length), (L.map Prod.fst)[q] = gotOf ms q hq')
    {i : Nat} (hi : i < L.length) (hi' : i < ms.length) (hok : ms[i].Ok) : LAt w B i ms[i] ((arTo ms i).length + 60) := by
  have e := hq i (by simpa using hi) hi'
  rw [List.getElem_map] at e
  obtain ⟨h0, h1, h2⟩ := hZ i hi
  obtain ⟨a, cp, hv, hS⟩ := data_sl hB (hD _ (List.getElem_mem hi)) (by rw [e]; exact data_in hi' hok)
  rw [hv] at h2
  rw [e] at h0 h1 h2 hS
  simp only [gotOf] at h0 h1 h2 hS
  rw [ar_part hi' hok] at hS
  exact ⟨a, cp, h0, h1, h2, hS⟩

/-- 'append([]byte(nil), raw...)'. -/
theorem app_nil (W : World) (x : List UInt8) (hx : x.length ≤ 1048576) (p : Option Addr) (c : Nat) (hp : Sl W p x) (ty : TypeId) :
    ∃ p' c' W', (Builtin.append_ #[23, 23] ty #[.slice none 0 0, .slice p x.length c]).run Tryd.prog W = .ok (.slice p' x.length c') W' ∧ Sl W' p' x ∧ x.length ≤ c' ∧ Below W.heap.size W W' := by
  obtain ⟨i, hi, hz0, hz1, hz2⟩ := info_parts info5
  by_cases h0 : 0 < x.length
  · obtain ⟨b, o, rfl, hB⟩ := hp h0
    obtain ⟨v', w', hr, ho, hg, _⟩ := run_append_own (P := Tryd.prog) W W.heap.size 23 ty 5 i (.int .u8 0) 1 1 Tryd.underlying23 hi hz0 hz1 hz2 rfl (by decide) _ 0 [] (World.ownsRow_nil _ _ _ _) ⟨b, o, none⟩ x.length c (bcells x) (by rw [bcells_len, Nat.mul_one]) hB.news (bcells_one x) (by unfold maxLen; omega) (by omega) (Nat.le_refl _)
    simp only [Nat.zero_add, List.nil_append] at ho
    obtain ⟨g, cap, rfl, h1, _, _, h4⟩ := own_bytes ho h0
    exact ⟨_, cap, w', hr, Sl.of h4, h1, (Below.refl _ _).grown hg (Nat.le_refl _) (fun k hk => by cases hk)⟩
  · have hx0 : x = [] := List.eq_nil_of_length_eq_zero (by omega)
    subst hx0
    refine ⟨none, 0, W, ?_, Sl.nil _ _, Nat.le_refl _, Below.refl _ _⟩
    cases p <;> simp [Builtin.append_, run_underlying Tryd.underlying23, sizeOf, typeInfo, hi, Builtin.lenOf, Builtin.firstCells, loadCells, loadCellsFrom]

theorem ok_all {ms : List Mem} (h : okB ms = true) : ms.length ≤ 64 ∧ ∀ (i : Nat) (h : i < ms.length), ms[i].Ok := by
  unfold okB at h
  rw [Bool.and_eq_true, decide_eq_true_eq, List.all_eq_true] at h
  exact ⟨h.1, fun i hi => (memOk_iff _).1 (h.2 _ (List.getElem_mem hi))⟩

/-- What a law answers. -/
def Yes (w : World) (e : Ending) (w' : World) : Prop := e = .returned (.bool true) ∧ Below w.heap.size w w'

set_option maxHeartbeats 4000000 in
set_option maxRecDepth 100000 in
theorem lawA_bad (ms : List Mem) (a : Option Addr) (b o cp : Nat) (raw : List UInt8) (pr : Option Addr) (cr : Nat) (w : World) (ha : 0 < ms.length → a = some ⟨b, o, none⟩) (hC : Hid (MCells w b o ms)) (hbad : okB ms = false ∨ 1048576 < raw.length) :
    Calls Tryd.prog 3 #[.slice a ms.length cp, .slice pr raw.length cr] w (Yes w) := by
  have c5 := memsOk ms a b o cp w ha hC
  cases h : okB ms with
  | false =>
    rw [h] at c5
    go_enter Tryd.func3, Tryd.ntmps3
    go_wp2_with (go_at_call 5; go_fit c5; rintro e W ⟨rfl, rfl⟩)
    go_ret
    exact ⟨rfl, Below.refl _ _⟩
  | true =>
    rw [h] at c5
    have hr : (1048576 : Int) < (raw.length : Int) := by
      rcases hbad with hb | hb
      · rw [h] at hb; cases hb
      · omega
    clear hbad
    go_enter Tryd.func3, Tryd.ntmps3
    go_wp2_with (go_at_call 5; go_fit c5; rintro e W ⟨rfl, rfl⟩)
    go_ret
    exact ⟨rfl, Below.refl _ _⟩

theorem zzSome (l : List UInt8) (g o c : Nat) (w : World) (hl : l.length ≤ 8388608) (hc : l.length ≤ c) (hB : Bs w g o l) (E : Env w) : Calls Tryd.prog 7 #[.slice (some ⟨g, o, none⟩) l.length c] w (ZPost l g o w) := by
  refine zzAt l _ c g o w hl ?_
  by_cases hm : magicB <+: l
  · exact membersYes l g o c w hl hc hB hm E
  · exact membersNo l _ c g o w hc (Sl.of hB) hm

/-- What stands behind 'd, offs := zza1Ar(mems)'. -/
structure Built (w w1 : World) (ms : List Mem) (g cap : Nat) : Prop where
  le : (ar ms).length ≤ cap
  lt : g < w1.heap.size
  bytes : Bs w1 g 0 (ar ms)
  offs : OffsAt w1 (w.heap.size + 1) ms
  bel : Below w.heap.size w w1

theorem arBuilt (ms : List Mem) (a : Option Addr) (b o cp : Nat) (w : World) (ha : 0 < ms.length → a = some ⟨b, o, none⟩) (hC : MCells w b o ms) (hok : ∀ (i : Nat) (h : i < ms.length), ms[i].Ok) (h64 : ms.length ≤ 64) :
    Calls Tryd.prog 6 #[.slice a ms.length cp] w fun e w1 => ∃ g cap, e = .returned (.tuple #[.slice (some ⟨g, 0, none⟩) (ar ms).length cap, .slice (some ⟨w.heap.size + 1, 0, none⟩) ms.length ms.length]) ∧ Built w w1 ms g cap :=
  (arWalk ms a b o cp w ha hC hok h64).mono fun e w1 ⟨⟨D, f, he, hD, hrow, hoff⟩, hb⟩ => by
    obtain ⟨g, cap, rfl, h1, _, h3, h4⟩ := ar_shape hD hrow.lt
    exact ⟨g, cap, he, h1, h3, h4, fun i hi => by rw [hrow.cell hi, hoff i hi], hb⟩

/-- What stands behind 'list, err := archive.ZZMembers(d)'. -/
structure Listed (w1 w2 : World) (ms : List Mem) (L : List (Got × Value)) (g B : Nat) : Prop where
  len : L.length = ms.length
  good : Good (ar ms) (L.map Prod.fst)
  data : ∀ x ∈ L, DataAt g 0 x.1 x.2
  cells : ZCells w2 B L
  lt : B < w2.heap.size
  eqs : ∀ (q : Nat) (_ : q < (L.map Prod.fst).length) (hq' : q < ms.length), (L.map Prod.fst)[q] = gotOf ms q hq'
  bel : Below w1.heap.size w1 w2

theorem listed {w w1 : World} {ms : List Mem} {g cap : Nat} (hok : ∀ (i : Nat) (h : i < ms.length), ms[i].Ok) (h64 : ms.length ≤ 64) (hB : Built w w1 ms g cap) (E : Env w) :
    Calls Tryd.prog 7 #[.slice (some ⟨g, 0, none⟩) (ar ms).length cap] w1 fun e w2 => ∃ (L : List (Got × Value)) (B : Nat), e = .returned (.tuple #[.slice (some ⟨B, 0, none⟩) ms.length ms.length, .nilIface]) ∧ Listed w1 w2 ms L g B := by
  have hsm := arTo_small hok h64 ms.length (Nat.le_refl _)
  have hsm' : (ar ms).length ≤ 4198216 := hsm
  refine (zzSome (ar ms) g 0 cap w1 (by omega) hB.le hB.bytes (E.below hB.bel)).mono fun e w2 ⟨h, hb⟩ => ?_
  rcases h with ⟨L, B, hG, hD, he, h1, _, hZ⟩ | ⟨hbad, _⟩
  · obtain ⟨h2, h3⟩ := ar_good hok hG
    rw [List.length_map] at h2
    exact ⟨L, B, by rw [he, h2], h2, hG, hD, hZ, h1, h3, hb⟩
  · exact absurd hbad (ar_not_bad hok)

/-- At a call in a region that follows another that drew. -/
theorem quiet_sum {f : FuncId} {args : Array Value} {w : World} {p n : Nat} {v : Value} (h : Calls Tryd.prog f args (w.drewN (p + n)) fun e w' => e = .returned v ∧ w' = w.drewN (p + n)) :
    Calls Tryd.prog f args (w.drewN (p + n)) fun e w'' => e = .returned v ∧ ∃ m, w'' = w.drewN (p + m) := h.mono fun _ _ ⟨he, hm⟩ => ⟨he, n, hm⟩

theorem good_pos {l : List UInt8} {G : List Got} (h : Good l G) : 0 < l.length := by
  have h1 : magicB.length ≤ l.length := h.1.length_le
  have h2 : magicB.length = 8 := rfl
  omega

/-- bytes.Equal at two slices that hold the same bytes. -/
theorem equalSame (p1 p2 : Option Addr) (c d D : Nat) (l : List UInt8) (hl : l.length = D) (w V : World) (h1 : Sl w p1 l) (h2 : Sl w p2 l) (hb : Below w.heap.size w V) :
    Calls Tryd.prog 8 #[.slice p1 D c, .slice p2 D d] V fun e w' => e = .returned (.bool true) ∧ w' = V := by
  subst hl
  have := equalBytes p1 p2 c d l l V (h1.below hb) (h2.below hb)
  rwa [beq_self_eq_true] at this

set_option maxHeartbeats 4000000 in
set_option maxRecDepth 100000 in
theorem lawA_good (ms : List Mem) (a : Option Addr) (b o cp : Nat) (raw : List UInt8) (pr : Option Addr) (cr : Nat) (w : World) (ha : 0 < ms.length → a = some ⟨b, o, none⟩) (hC : Hid (MCells w b o ms)) (E : Hid (Env w)) (hS : Hid (Sl w pr raw)) (hokB : okB ms = true) (hraw : raw.length ≤ 1048576) :
    Calls Tryd.prog 3 #[.slice a ms.length cp, .slice pr raw.length cr] w (Yes w) := by
  have c5 := memsOk ms a b o cp w ha hC
  rw [hokB] at c5
  obtain ⟨h64, hok⟩ := ok_all hokB
  have HOK : Hid (∀ (i : Nat) (h : i < ms.length), ms[i].Ok) := hok
  have c6 := arBuilt ms a b o cp w ha hC.out hok h64
  have hsm : (ar ms).length ≤ 4198216 := arTo_small hok h64 ms.length (Nat.le_refl _)
  clear hok hokB
  obtain ⟨N, hN⟩ : ∃ N, N = (ar ms).length := ⟨_, rfl⟩
  have HN : Hid (N = (ar ms).length) := hN
  rw [← hN] at c6 hsm
  clear hN
  go_enter Tryd.func3, Tryd.ntmps3
  go_wp2_with (first
    | (go_at_call 5; go_fit c5; rintro e w ⟨rfl, rfl⟩)
    | (go_at_call 6; go_fit c6; rintro e w1 ⟨g, cap, rfl, hBt⟩; have HB : Hid _ := hBt; have c7 := listed HOK.out h64 hBt E.out; rw [← HN.out] at c7; clear c6 c5 hBt)
    | (go_at_call 7; go_fit c7; rintro e w2 ⟨L, B, rfl, hLs⟩; have HL : Hid _ := hLs; clear c7 hLs))
  have hbw1 : Hid (Below w.heap.size w w2) := HB.out.bel.trans (HL.out.bel.mono HB.out.bel.size)
  go_loopw [43] (fun i wr => ∃ k : Nat, k ≤ ms.length ∧ i = .int .i64 k ∧ Below w2.heap.size w2 wr) (fun i _ => ms.length - (intOf i).toNat)
  case atStart => exact ⟨0, Nat.zero_le _, rfl, Below.refl _ _⟩
  case round =>
    obtain ⟨k, hk, rfl, hnx⟩ := hrel
    have hbr : Hid (Below w.heap.size w wr) := hbw1.out.trans (hnx.mono hbw1.out.size)
    by_cases hlt : k < ms.length
    · obtain ⟨pd, cd, pf, cf, c0, c1, _, _, _, hSd, _⟩ := (hC.out.below hbr.out) k hlt
      obtain rfl := ha (by omega)
      obtain ⟨al, cl, l0, l1, l2, hSl⟩ := (list_at HL.out.cells ((HB.out.bytes.below HB.out.lt HL.out.bel)) HL.out.data HL.out.eqs (by rw [HL.out.len]; exact hlt) hlt (HOK.out k hlt)).below hnx
      have e0 := (HB.out.offs.below HL.out.bel).below hnx k hlt
      have hdl : ms[k].data.length ≤ 65536 := (HOK.out k hlt).2.2.1
      have hin := data_in hlt (HOK.out k hlt)
      rw [← HN.out] at hin
      have hBd : Bs wr g ((arTo ms k).length + 60) ms[k].data := by
        have := (((HB.out.bytes.below HB.out.lt HL.out.bel).below (Nat.lt_of_lt_of_le HB.out.lt HL.out.bel.size) hnx).drop ((arTo ms k).length + 60)).take ms[k].data.length
        have e := ar_part hlt (HOK.out k hlt)
        unfold part at e
        rw [e, Nat.zero_add] at this
        exact this
      have CE : Hid (∀ (V : World) (x y : Nat), Below wr.heap.size wr V → Calls Tryd.prog 8 #[.slice (some al) ms[k].data.length x, .slice pd ms[k].data.length y] V fun e w' => e = .returned (.bool true) ∧ w' = V) := fun V x y hb => equalSame _ _ _ _ _ _ rfl wr V hSl hSd hb
      have CF : Hid (∀ (V : World) (q : Option Addr) (x y : Nat), Sl wr q ms[k].data → Below wr.heap.size wr V → Calls Tryd.prog 8 #[.slice q ms[k].data.length x, .slice pd ms[k].data.length y] V fun e w' => e = .returned (.bool true) ∧ w' = V) := fun V q x y hq hb => equalSame _ _ _ _ _ _ rfl wr V hq hSd hb
      have HBd : Hid (Sl wr (some ⟨g, (arTo ms k).length + 60, none⟩) ms[k].data) := Sl.of hBd
      have Hz : Hid (cap = (arTo ms k).length + 60 → Sl wr (some ⟨g, 0, none⟩) ms[k].data) := fun e h => by have := HB.out.le; rw [← HN.out] at this; omega
      clear hSd hSl hBd
      have hcap : N ≤ cap := by have := HB.out.le; rw [← HN.out] at this; exact this
      have hki : (k : Int) < (ms.length : Int) := by omega
      generalize (arTo ms k).length = A at *
      generalize ms[k] = m at *
      rw [Int.natCast_add] at l1 e0
      rw [show ((60 : Nat) : Int) = 60 from rfl] at l1 e0
      have hgd : decide ((N : Int) < (A : Int) + 60 + (m.data.length : Int)) = false := decide_eq_false (by omega)
      have hi1 : (A : Int) + 60 + (m.data.length : Int) ≤ (cap : Int) := by omega
      go_wp2
      go_quiet ((go_at_call 8; refine Calls.quiet_of_same (CE.out _ _ _ (below_drewNg _ _))))
      go_wp2
      go_quiet (fail)
      go_wp2
      by_cases hce : cap = A + 60
      · subst hce
        have hz := Hz.out rfl
        have HZ : Hid (Sl wr (some ⟨g, 0, none⟩) m.data) := hz
        clear hz
        go_quiet ((go_at_call 8; refine quiet_sum (CF.out _ _ _ _ HZ.out (below_drewNg _ _))))
        go_wp2
        exact ⟨⟨k + 1, by omega, by go_num, hnx.trans ((below_drewNg wr _).mono hnx.size)⟩, by simp only [intOf]; omega⟩
      · go_quiet ((go_at_call 8; refine quiet_sum (CF.out _ _ _ _ HBd.out (below_drewNg _ _))))
        go_wp2
        exact ⟨⟨k + 1, by omega, by go_num, hnx.trans ((below_drewNg wr _).mono hnx.size)⟩, by simp only [intOf]; omega⟩
    · obtain rfl : k = ms.length := by omega
      have hgood : Good (ar ms) (L.map Prod.fst) := HL.out.good
      have c9 := tiles (ar ms) g 0 cap B L wr (by rw [← HN.out]; omega) HB.out.le ((HB.out.bytes.below HB.out.lt HL.out.bel).below (Nat.lt_of_lt_of_le HB.out.lt HL.out.bel.size) hnx) hgood HL.out.data (Nat.lt_of_lt_of_le HL.out.lt hnx.size) (HL.out.cells.below HL.out.lt hnx)
      rw [← HN.out, HL.out.len] at c9
      clear hgood
      go_wp2_with (first
        | (go_at_call 9; go_fit c9; rintro e w4 ⟨rfl, hb4⟩; clear c9; have hb5 := hbr.out.trans (hb4.mono hbr.out.size); obtain ⟨p', c', w5, hrun, hSr, hcr, hb6⟩ := app_nil w4 raw hraw pr cr (hS.out.below hb5) 23; have HR : Hid _ := hrun; clear hrun; have hb7 := hb5.trans (hb6.mono hb5.size); obtain ⟨b8, o8, h81, c8⟩ := zzMembers raw p' c' w5 (by omega) hcr hSr (E.out.below hb7); have H8 : Hid (0 < raw.length → p' = some ⟨b8, o8, none⟩ ∧ Bs w5 b8 o8 raw) := h81; clear h81 hSr)
        | (at_builtin; refine wpList_app _ rfl (.const (.slice none 0 0)) (.tmp 121) 23 rfl _ _ rfl rfl HR.out ?_)
        | (go_at_call 7; go_fit c8; rintro e w6 ⟨⟨L', B', hG', hD', rfl, hB', hB'', hZ'⟩ | ⟨hF, t, p, rfl⟩, hb8⟩ <;> try (obtain ⟨rfl, hB8⟩ := H8.out (good_pos hG'); have c10 := tiles raw b8 o8 c' B' L' w6 (by omega) hcr (hB8.below (hB8.lt (good_pos hG')) hb8) hG' hD' hB' hZ'; have hb9 := hb7.trans (hb8.mono hb7.size); clear hB8 hG' hD' hZ' c8))
        | (go_at_call 9; go_fit c10; rintro e w7 ⟨rfl, hb10⟩))
      · go_ret
        exact ⟨rfl, hb9.trans (hb10.mono hb9.size)⟩
      · go_ret
        exact ⟨rfl, hb7.trans (hb8.mono hb7.size)⟩

theorem lawA (ms : List Mem) (a : Option Addr) (b o cp : Nat) (raw : List UInt8) (pr : Option Addr) (cr : Nat) (w : World) (ha : 0 < ms.length → a = some ⟨b, o, none⟩) (hC : MCells w b o ms) (E : Env w) (hS : Sl w pr raw) :
    Calls Tryd.prog 3 #[.slice a ms.length cp, .slice pr raw.length cr] w (Yes w) := by
  by_cases h1 : okB ms = true
  · by_cases h2 : raw.length ≤ 1048576
    · exact lawA_good ms a b o cp raw pr cr w ha hC E hS h1 h2
    · exact lawA_bad ms a b o cp raw pr cr w ha hC (.inr (by omega))
  · exact lawA_bad ms a b o cp raw pr cr w ha hC (.inl (by simpa using h1))
end Go.Proofs.Qxb6003829aDoor
