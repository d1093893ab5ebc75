/-
  Seat b6003829aD: the walk of the second law (4).
-/
import Derived.Test.Qxb6003829aDoorLawA
namespace Go.Proofs.Qxb6003829aDoor
open Go.RowKit Go.Lib

/-- A cut that was read: its members are the first ones. -/
structure CutL (w1 w2 : World) (ms : List Mem) (K : Nat) (L : List (Got × Value)) (g B : Nat) : Prop where
  le : L.length ≤ ms.length
  data : ∀ x ∈ L, DataAt g 0 x.1 x.2
  cells : ZCells w2 B L
  eqs : ∀ (q : Nat) (_ : q < (L.map Prod.fst).length) (hq' : q < ms.length), (L.map Prod.fst)[q] = gotOf ms q hq'
  upto : K ≤ (arTo ms L.length).length
  bound : K = 8 ∨ ∃ q, ∃ hq : q < ms.length, (arTo ms q).length + 60 + ms[q].data.length ≤ K ∧ K ≤ (arTo ms q).length + 60 + ms[q].data.length + ms[q].data.length % 2
  last : ∀ q, ∀ hq : q < ms.length, q < L.length → (arTo ms q).length + 60 + ms[q].data.length ≤ K
  bel : Below w1.heap.size w1 w2

theorem cutRead {w1 : World} {ms : List Mem} {g cap K : Nat} (hok : ∀ (i : Nat) (h : i < ms.length), ms[i].Ok) (h64 : ms.length ≤ 64) (hle : (ar ms).length ≤ cap) (hB : Bs w1 g 0 (ar ms)) (hK : K ≤ (ar ms).length) (E : Env w1) :
    Calls Tryd.prog 7 #[.slice (some ⟨g, 0, none⟩) K cap] w1 fun e w2 => (∃ (L : List (Got × Value)) (B : Nat), e = .returned (.tuple #[.slice (some ⟨B, 0, none⟩) L.length L.length, .nilIface]) ∧ CutL w1 w2 ms K L g B) ∨ ((∃ t p, e = .returned (.tuple #[.slice none 0 0, .iface t p])) ∧ Below w1.heap.size w1 w2) := by
  have hsm : (ar ms).length ≤ 4198216 := arTo_small hok h64 ms.length (Nat.le_refl _)
  have hlen : ((ar ms).take K).length = K := by rw [List.length_take]; omega
  have h := zzSome ((ar ms).take K) g 0 cap w1 (by omega) (by omega) (hB.take K) E
  rw [hlen] at h
  refine h.mono fun e w2 ⟨hh, hb⟩ => ?_
  rcases hh with ⟨L, B, hG, hD, he, h1, _, hZ⟩ | ⟨_, he⟩
  · left
    obtain ⟨q1, q2, q3, q4⟩ := cut_good hok hK hG
    rw [List.length_map] at q1 q3 q4
    have hlast : ∀ q, ∀ hq : q < ms.length, q < L.length → (arTo ms q).length + 60 + ms[q].data.length ≤ K := by
      intro q hq hql
      rcases q4 with ⟨h0, _⟩ | ⟨q', hq', e, hle'⟩
      · omega
      · rcases Nat.lt_or_ge q q' with hlt | hge
        · have h2 := arTo_len_succ hq (hok q hq)
          have h3 : (arTo ms (q + 1)).length ≤ (arTo ms q').length := arTo_le (by omega) (by omega)
          omega
        · obtain rfl : q = q' := by omega
          exact hle'
    refine ⟨L, B, he, q1, hD, hZ, q2, q3, ?_, hlast, hb⟩
    rcases q4 with ⟨_, h8⟩ | ⟨q', hq', e, hle'⟩
    · exact .inl h8
    · refine .inr ⟨q', hq', hle', ?_⟩
      have h2 := arTo_len_succ hq' (hok q' hq')
      rw [e] at q3
      omega
  · exact .inr ⟨he, hb⟩

set_option maxHeartbeats 4000000 in
set_option maxRecDepth 100000 in
theorem lawB_bad (ms : List Mem) (a : Option Addr) (b o cp : Nat) (w : World) (ha : 0 < ms.length → a = some ⟨b, o, none⟩) (hC : Hid (MCells w b o ms)) (hbad : okB ms = false) :
    Calls Tryd.prog 4 #[.slice a ms.length cp] w (Yes w) := by
  have c5 := memsOk ms a b o cp w ha hC
  rw [hbad] at c5
  go_enter Tryd.func4, Tryd.ntmps4
  go_wp2_with (go_at_call 5; go_fit c5; rintro e W ⟨rfl, rfl⟩)
  go_ret
  exact ⟨rfl, Below.refl _ _⟩

set_option maxHeartbeats 4000000 in
set_option maxRecDepth 100000 in
theorem lawB_good (ms : List Mem) (a : Option Addr) (b o cp : Nat) (w : World) (ha : 0 < ms.length → a = some ⟨b, o, none⟩) (hC : Hid (MCells w b o ms)) (E : Hid (Env w)) (hokB : okB ms = true) :
    Calls Tryd.prog 4 #[.slice a ms.length cp] w (Yes w) := by
  have c5 := memsOk ms a b o cp w ha hC
  rw [hokB] at c5
  obtain ⟨h64, hok⟩ := ok_all hokB
  have HOK : Hid (∀ (i : Nat) (h : i < ms.length), ms[i].Ok) := hok
  have c6 := arBuilt ms a b o cp w ha hC.out hok h64
  have hsm : (ar ms).length ≤ 4198216 := arTo_small hok h64 ms.length (Nat.le_refl _)
  clear hok hokB
  obtain ⟨N, hN⟩ : ∃ N, N = (ar ms).length := ⟨_, rfl⟩
  have HN : Hid (N = (ar ms).length) := hN
  rw [← hN] at c6 hsm
  clear hN
  go_enter Tryd.func4, Tryd.ntmps4
  go_wp2_with (first
    | (go_at_call 5; go_fit c5; rintro e w ⟨rfl, rfl⟩)
    | (go_at_call 6; go_fit c6; rintro e w1 ⟨g, cap, rfl, hBt⟩; have HB : Hid _ := hBt; clear c6 c5 hBt))
  go_loopw [5] (fun i wr => ∃ k : Nat, k ≤ N ∧ i = .int .i64 k ∧ Below w1.heap.size w1 wr) (fun i _ => N - (intOf i).toNat)
  case atStart => exact ⟨0, Nat.zero_le _, rfl, Below.refl _ _⟩
  case round =>
    obtain ⟨K, hK, rfl, hnx⟩ := hrel
    have hbr : Hid (Below w.heap.size w wr) := HB.out.bel.trans (hnx.mono HB.out.bel.size)
    by_cases hlt : K < N
    · have hcap : N ≤ cap := by have := HB.out.le; rw [← HN.out] at this; exact this
      have c7 := cutRead (K := K) HOK.out h64 HB.out.le (HB.out.bytes.below HB.out.lt hnx) (by rw [← HN.out]; omega) (E.out.below hbr.out)
      have hKc : (K : Int) ≤ (cap : Int) := by omega
      go_wp2_with (first
        | (go_at_call 7; go_fit c7; rintro e w2 (⟨L, B, rfl, hCl⟩ | ⟨⟨t, p, rfl⟩, hb2⟩) <;> clear c7 <;> try (have HC2 : Hid _ := hCl; have hb2 := hCl.bel; have hbr2 : Hid (Below w.heap.size w w2) := hbr.out.trans (hb2.mono hbr.out.size); have c10 := isBound ms a b o cp (w.heap.size + 1) K w2 ha (hC.out.below hbr2.out) ((HB.out.offs.below hnx).below hb2) HOK.out h64 (by omega) hCl.bound; clear hCl))
        | (go_at_call 10; go_fit c10; rintro e w3 ⟨rfl, hb3⟩; clear c10))
      · have hbr3 : Hid (Below w.heap.size w w3) := hbr2.out.trans (hb3.mono hbr2.out.size)
        have hb13 : Hid (Below w1.heap.size w1 w3) := hnx.trans ((hb2.trans (hb3.mono hb2.size)).mono hnx.size)
        have hLl : L.length ≤ ms.length := HC2.out.le
        go_loopw [8, 40] (fun j i wr3 => ∃ k : Nat, k ≤ ms.length ∧ i = .int .i64 k ∧ j = .int .i64 ((min k L.length : Nat) : Int) ∧ Below w3.heap.size w3 wr3) (fun _ i _ => ms.length - (intOf i).toNat)
        case atStart => exact ⟨0, Nat.zero_le _, rfl, by simp, Below.refl _ _⟩
        case round =>
          obtain ⟨k, hk, rfl, rfl, hn3⟩ := hrel
          have hbr4 : Hid (Below w.heap.size w wr) := hbr3.out.trans (hn3.mono hbr3.out.size)
          have hb14 : Hid (Below w1.heap.size w1 wr) := hb13.out.trans (hn3.mono hb13.out.size)
          by_cases hkm : k < ms.length
          · obtain ⟨pd, cd, pf, cf, c0, c1, _, _, _, hSd, _⟩ := (hC.out.below hbr4.out) k hkm
            obtain rfl := ha (by omega)
            have e0 := HB.out.offs.below hb14.out k hkm
            have hdl : ms[k].data.length ≤ 65536 := (HOK.out k hkm).2.2.1
            have hsk := arTo_small HOK.out h64 k (by omega)
            have hki : (k : Int) < (ms.length : Int) := by omega
            rw [Int.natCast_add] at e0
            rw [show ((60 : Nat) : Int) = 60 from rfl] at e0
            by_cases hkl : k < L.length
            · obtain ⟨al, cl, l0, l1, l2, hSl⟩ := ((list_at HC2.out.cells (HB.out.bytes.below HB.out.lt (hnx.trans (hb2.mono hnx.size))) HC2.out.data HC2.out.eqs hkl hkm (HOK.out k hkm)).below hb3).below hn3
              have hle := HC2.out.last k hkm hkl
              have CE : Hid (∀ (V : World) (x y : Nat), Below wr.heap.size wr V → Calls Tryd.prog 8 #[.slice (some al) ms[k].data.length x, .slice pd ms[k].data.length y] V fun e w' => e = .returned (.bool true) ∧ w' = V) := fun V x y hb => equalSame _ _ _ _ _ _ rfl wr V hSl hSd hb
              rw [Int.natCast_add] at l1
              rw [show ((60 : Nat) : Int) = 60 from rfl] at l1
              have hmin : min k L.length = k := Nat.min_eq_left (by omega)
              rw [hmin]
              have hkli : (k : Int) < (L.length : Int) := by omega
              have hg1 : decide ((L.length : Int) ≤ (k : Int)) = false := decide_eq_false (by omega)
              clear hSd hSl hmin
              generalize (arTo ms k).length = A at *
              generalize ms[k] = m at *
              have hg2 : ¬ ((K : Int) < (A : Int) + 60 + (m.data.length : Int)) := by omega
              go_wp2
              go_quiet (fail)
              go_wp2
              go_quiet ((go_at_call 8; refine quiet_sum (CE.out _ _ _ (below_drewNg _ _))))
              go_wp2
              exact ⟨⟨k + 1, by omega, by go_num, by rw [Nat.min_eq_left (by omega : k + 1 ≤ L.length)]; go_num, hn3.trans ((below_drewNg wr _).mono hn3.size)⟩, by simp only [intOf]; omega⟩
            · have hgt : K < (arTo ms k).length + 60 + ms[k].data.length := by
                have h1 := HC2.out.upto
                have h2 : (arTo ms L.length).length ≤ (arTo ms k).length := arTo_le (by omega) (by omega)
                omega
              have hmin : min k L.length = min (k + 1) L.length := by omega
              rw [hmin]
              clear hSd hmin
              generalize (arTo ms k).length = A at *
              generalize ms[k] = m at *
              have hg2 : (K : Int) < (A : Int) + 60 + (m.data.length : Int) := by omega
              go_wp2
              go_quiet (fail)
              go_wp2
              exact ⟨⟨k + 1, by omega, by go_num, rfl, hn3.trans ((below_drewNg wr _).mono hn3.size)⟩, by simp only [intOf]; omega⟩
          · obtain rfl : k = ms.length := by omega
            have hmin : min ms.length L.length = L.length := Nat.min_eq_right hLl
            rw [hmin]
            go_wp2
            exact ⟨⟨K + 1, by omega, by go_num, hb14.out⟩, by simp only [intOf]; omega⟩
      · exact ⟨⟨K + 1, by omega, by go_num, hnx.trans (hb2.mono hnx.size)⟩, by simp only [intOf]; omega⟩
    · go_wp2
      go_ret
      exact ⟨rfl, hbr.out⟩

theorem lawB (ms : List Mem) (a : Option Addr) (b o cp : Nat) (w : World) (ha : 0 < ms.length → a = some ⟨b, o, none⟩) (hC : MCells w b o ms) (E : Env w) : Calls Tryd.prog 4 #[.slice a ms.length cp] w (Yes w) := by
  by_cases h1 : okB ms = true
  · exact lawB_good ms a b o cp w ha hC E h1
  · exact lawB_bad ms a b o cp w ha hC (by simpa using h1)
end Go.Proofs.Qxb6003829aDoor
