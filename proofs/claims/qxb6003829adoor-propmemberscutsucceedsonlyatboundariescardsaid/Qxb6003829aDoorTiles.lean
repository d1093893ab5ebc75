/-
  Seat b6003829aD: the walks of zza1Tiles (9) and zza1IsBound (10).
-/
import Derived.Test.Qxb6003829aDoorAr
import Derived.Test.Qxb6003829aDoorZZ
import Derived.Deep.QuietTactic
import Derived.BigQuiet
namespace Go.Proofs.Qxb6003829aDoor
open Go.RowKit Go.Lib

/-- A part of the archive. -/
def part (l : List UInt8) (o n : Nat) : List UInt8 := (l.drop o).take n
theorem part_len {l : List UInt8} {o n : Nat} (h : o + n ≤ l.length) : (part l o n).length = n := by unfold part; rw [List.length_take, List.length_drop]; omega

theorem data_sl {w : World} {b o : Nat} {l : List UInt8} {g : Got} {v : Value} (hB : Bs w b o l) (hd : DataAt b o g v) (hle : g.off + g.len ≤ l.length) : ∃ a cp, v = .slice (some a) g.len cp ∧ Sl w (some a) (part l g.off g.len) := by
  obtain ⟨a, cp, rfl, ha⟩ := hd
  refine ⟨a, cp, rfl, fun h0 => ?_⟩
  rw [part_len hle] at h0
  obtain rfl := ha h0
  exact ⟨b, o + g.off, rfl, (hB.drop g.off).take g.len⟩

theorem Sl.drewN {w : World} {p : Option Addr} {l : List UInt8} (h : Sl w p l) (n : Nat) : Sl (w.drewN n) p l := h.below (below_drewNg w n)

/-- The loop's relation in zza1Tiles. -/
def TLoop (l : List UInt8) (L : List (Got × Value)) (w : World) (pos i : Value) (wr : World) : Prop :=
  ∃ k off offE : Nat, k ≤ L.length ∧ i = .int .i64 k ∧ Chain l off ((L.map Prod.fst).drop k) offE ∧ l.length ≤ offE ∧ off ≤ l.length + 1 ∧ pos = .int .i64 ((min off l.length : Nat) : Int) ∧ Below w.heap.size w wr

/-- What a round of zza1Tiles meets. -/
theorem tloop_head {l : List UInt8} {L : List (Got × Value)} {k off offE : Nat} (hk : k < L.length) (h : Chain l off ((L.map Prod.fst).drop k) offE) :
    off < l.length ∧ L[k].1.off = off + 60 ∧ off + 60 + L[k].1.len ≤ l.length ∧ Chain l (nextOf off L[k].1) ((L.map Prod.fst).drop (k + 1)) offE ∧ (l.length < nextOf off L[k].1 → k + 1 = L.length) := by
  have e : (L.map Prod.fst).drop k = L[k].1 :: (L.map Prod.fst).drop (k + 1) := by
    rw [List.drop_eq_getElem_cons (by simpa using hk)]
    simp
  rw [e] at h
  obtain ⟨h1, h2, h3⟩ := h
  refine ⟨h1, h2.2.2.1, h2.1, h3, fun hn => ?_⟩
  rcases Nat.lt_or_ge (k + 1) L.length with hl | hl
  · have e2 : (L.map Prod.fst).drop (k + 1) = L[k + 1].1 :: (L.map Prod.fst).drop (k + 1 + 1) := by
      rw [List.drop_eq_getElem_cons (by simpa using hl)]
      simp
    rw [e2] at h3
    have := h3.1
    omega
  · omega

theorem tloop_next {l : List UInt8} {L : List (Got × Value)} {w w2 : World} {k off offE n nq : Nat} {g : Got} {x : Int} (h4 : Chain l (nextOf off g) ((L.map Prod.fst).drop (k + 1)) offE) (hE : l.length ≤ offE) (hn : n = l.length) (hA : Below w.heap.size w w2)
    (hk : k < L.length) (h3 : off + 60 + g.len ≤ n) (hx : x = ((min (nextOf off g) n : Nat) : Int)) : TLoop l L w (.int .i64 x) (.int .i64 ((k : Int) + 1)) (w2.drewN nq) :=
  ⟨k + 1, _, offE, by omega, by rw [Int.natCast_add, Int.natCast_one], h4, hE, by unfold nextOf; omega, by rw [hx, hn], hA.trans ((below_drewNg w2 nq).mono hA.size)⟩

set_option maxHeartbeats 4000000 in
set_option maxRecDepth 100000 in
theorem tiles (l : List UInt8) (b o c B : Nat) (L : List (Got × Value)) (w : World) (hl : l.length ≤ 8388608) (hc : l.length ≤ c) (hB : Hid (Bs w b o l)) (hG : Hid (Good l (L.map Prod.fst))) (hD : Hid (∀ x ∈ L, DataAt b o x.1 x.2)) (hBw : B < w.heap.size) (hZ : Hid (ZCells w B L)) :
    Calls Tryd.prog 9 #[.slice (some ⟨b, o, none⟩) l.length c, .slice (some ⟨B, 0, none⟩) L.length L.length] w fun e w' => e = .returned (.bool true) ∧ Below w.heap.size w w' := by
  have hpre := hG.out.1
  have h8 : 8 ≤ l.length := hpre.length_le
  have hll : Hid (L.length ≤ 139811) := good_len hG.out hl
  have hbw : b < w.heap.size := hB.out.lt (by omega)
  have hm8 : l.take 8 = magicB := by
    have := List.prefix_iff_eq_take.1 hpre
    exact this.symm
  have hcv : (convert 23 9 (.slice (some ⟨b, o, none⟩) 8 c)).run Tryd.prog w = .ok (.string ⟨#[33, 60, 97, 114, 99, 104, 62, 10]⟩) w := by
    have := toStr (l.take 8) b o c w (hB.out.take 8)
    rw [hm8] at this
    exact this
  have hst : Hid (TLoop l L w (.int .i64 8) (.int .i64 0) w) := by
    obtain ⟨_, offE, hch, hE⟩ := hG.out
    exact ⟨0, 8, offE, Nat.zero_le _, rfl, hch, hE, by omega, by rw [Nat.min_eq_left h8]; rfl, Below.refl _ _⟩
  obtain ⟨n, hn⟩ : ∃ n, n = l.length := ⟨_, rfl⟩
  have Hn : Hid (n = l.length) := hn
  rw [← hn] at hl hc h8 ⊢
  clear hn hm8 hpre
  have hi8 : ¬ ((n : Int) < 8) := by omega
  go_enter Tryd.func9, Tryd.ntmps9
  go_wp2
  go_loopw [5, 21] (fun pos i wr => TLoop l L w pos i wr) (fun _ i _ => L.length - (intOf i).toNat)
  case atStart => exact hst.out
  case round =>
    clear hcv hst
    obtain ⟨k, off, offE, hk, rfl, hch, hE, ho, rfl, hnx⟩ := hrel
    have hl2 := hll.out
    by_cases hlt : k < L.length
    · obtain ⟨q1, q2, q3, q4, q5⟩ := tloop_head hlt hch
      obtain ⟨c0, c1, c2⟩ := (hZ.out.below hBw hnx) k hlt
      obtain ⟨a, cp, hdv, hS⟩ := data_sl (hB.out.below hbw hnx) (hD.out _ (List.getElem_mem hlt)) (by omega)
      rw [hdv] at c2
      rw [q2] at c1 hS
      have hpl : (part l (off + 60) L[k].1.len).length = L[k].1.len := part_len (by omega)
      have hSd : Sl wr (some ⟨b, o + (off + 60), none⟩) (part l (off + 60) L[k].1.len) := Sl.of (((hB.out.below hbw hnx).drop (off + 60)).take L[k].1.len)
      have hmin : min off l.length = off := Nat.min_eq_left (by omega)
      have hnext : Hid (TLoop l L w (.int .i64 ((min (nextOf off L[k].1) l.length : Nat) : Int)) (.int .i64 ((k + 1 : Nat) : Int)) wr → True) := fun _ => trivial
      have Q4 : Hid (Chain l (nextOf off L[k].1) ((L.map Prod.fst).drop (k + 1)) offE) := q4
      have Q5 : Hid (l.length < nextOf off L[k].1 → k + 1 = L.length) := q5
      have HS : Hid (Sl wr (some a) (part l (off + 60) L[k].1.len)) := hS
      have HSd : Hid (Sl wr (some ⟨b, o + (off + 60), none⟩) (part l (off + 60) L[k].1.len)) := hSd
      have HE : Hid (l.length ≤ offE) := hE
      rw [hmin]
      rw [← Hn.out] at q1 q3
      clear hch ho hnext q2 q4 q5 hS hSd hdv hmin hE
      generalize L[k].1 = g at *
      have hal : Below wr.heap.size wr (wr.alloc (.cells #[.string ⟨g.name.toArray⟩, .int .i64 ((off : Int) + 60), .slice (some a) g.len cp] 34)) := (Below.refl _ _).alloc (Nat.le_refl _) _
      have HA : Hid (Below w.heap.size w (wr.alloc (.cells #[.string ⟨g.name.toArray⟩, .int .i64 ((off : Int) + 60), .slice (some a) g.len cp] 34))) := hnx.trans (hal.mono hnx.size)
      have m1 : (wr.alloc (.cells #[.string ⟨g.name.toArray⟩, .int .i64 ((off : Int) + 60), .slice (some a) g.len cp] 34)).cell? ⟨wr.heap.size, 1, none⟩ = some (.int .i64 ((off : Int) + 60)) := by rw [World.cell?_alloc_mark]; rfl
      have m2 : (wr.alloc (.cells #[.string ⟨g.name.toArray⟩, .int .i64 ((off : Int) + 60), .slice (some a) g.len cp] 34)).cell? ⟨wr.heap.size, 2, none⟩ = some (.slice (some a) g.len cp) := by rw [World.cell?_alloc_mark]; rfl
      have cE : ∀ (p : Option Addr) (nq cq : Nat), Sl wr p (part l (off + 60) g.len) → Calls Tryd.prog 8 #[.slice p g.len cq, .slice (some a) g.len cp] ((wr.alloc (.cells #[.string ⟨g.name.toArray⟩, .int .i64 ((off : Int) + 60), .slice (some a) g.len cp] 34)).drewN nq) fun e w' => e = .returned (.bool true) ∧ w' = (wr.alloc (.cells #[.string ⟨g.name.toArray⟩, .int .i64 ((off : Int) + 60), .slice (some a) g.len cp] 34)).drewN nq := fun p nq cq hp => by
        have := equalBytes p (some a) cq cp _ _ _ ((hp.below hal).drewN nq) ((HS.out.below hal).drewN nq)
        rw [hpl, beq_self_eq_true] at this
        exact this
      have CE : Hid _ := cE
      have hgd : decide ((n : Int) < (off : Int) + 60 + (g.len : Int)) = false := decide_eq_false (by omega)
      have hi1 : (off : Int) + 60 + (g.len : Int) ≤ (c : Int) := by omega
      clear cE hal
      by_cases hce : c = off + 60
      · have hS0 : Hid (Sl wr (some ⟨b, o, none⟩) (part l (off + 60) g.len)) := fun h => by rw [hpl] at h; omega
        clear hpl
        subst hce
        go_wp2
        generalize hw2 : wr.alloc (.cells #[.string ⟨g.name.toArray⟩, .int .i64 ((off : Int) + 60), .slice (some a) g.len cp] 34) = w2 at m1 m2 HA CE ⊢
        clear hw2
        go_quiet ((go_at_call 8; refine Calls.quiet_of_same (CE.out _ _ _ hS0.out)))
        go_wp2
        exact ⟨tloop_next Q4.out HE.out Hn.out HA.out hlt (by omega) (by unfold nextOf; omega), by simp only [intOf]; omega⟩
      · clear hpl
        go_wp2
        generalize hw2 : wr.alloc (.cells #[.string ⟨g.name.toArray⟩, .int .i64 ((off : Int) + 60), .slice (some a) g.len cp] 34) = w2 at m1 m2 HA CE ⊢
        clear hw2
        go_quiet ((go_at_call 8; refine Calls.quiet_of_same (CE.out _ _ _ HSd.out)))
        go_wp2
        · exfalso
          have h1 : ((k : Int) != (L.length : Int) - 1) = true := by assumption
          have h2 := Q5.out (by rw [← Hn.out]; unfold nextOf; omega)
          have h3 : (k : Int) ≠ (L.length : Int) - 1 := by simpa using h1
          omega
        · exact ⟨tloop_next Q4.out HE.out Hn.out HA.out hlt (by omega) (by unfold nextOf; omega), by simp only [intOf]; omega⟩
        · exact ⟨tloop_next Q4.out HE.out Hn.out HA.out hlt (by omega) (by unfold nextOf; omega), by simp only [intOf]; omega⟩
    · obtain rfl : k = L.length := by omega
      have hfin : Hid (min off l.length = n) := by
        have e : (L.map Prod.fst).drop L.length = [] := by simp
        rw [e] at hch
        have e2 : off = offE := hch
        show min off l.length = n
        rw [Hn.out]
        omega
      rw [hfin.out]
      clear hch
      go_wp2
      go_ret
      exact ⟨rfl, hnx⟩

/-- Where the members' data start, in memory. -/
def OffsAt (w : World) (H : Nat) (ms : List Mem) : Prop := ∀ i, i < ms.length → w.cell? ⟨H, i, none⟩ = some (.int .i64 (((arTo ms i).length + 60 : Nat) : Int))
theorem OffsAt.below {w w' : World} {H : Nat} {ms : List Mem} (h : OffsAt w H ms) (hB : Below w.heap.size w w') : OffsAt w' H ms := fun i hi => cell_below hB (h i hi)

set_option maxHeartbeats 4000000 in
set_option maxRecDepth 100000 in
theorem isBound (ms : List Mem) (a : Option Addr) (b o cp H K : Nat) (w : World) (ha : 0 < ms.length → a = some ⟨b, o, none⟩) (hC : Hid (MCells w b o ms)) (hO : Hid (OffsAt w H ms)) (hok : Hid (∀ (i : Nat) (h : i < ms.length), ms[i].Ok)) (h64 : ms.length ≤ 64) (hK : K ≤ 8388608)
    (hb : Hid (K = 8 ∨ ∃ q, ∃ hq : q < ms.length, (arTo ms q).length + 60 + ms[q].data.length ≤ K ∧ K ≤ (arTo ms q).length + 60 + ms[q].data.length + ms[q].data.length % 2)) :
    Calls Tryd.prog 10 #[.int .i64 K, .slice a ms.length cp, .slice (some ⟨H, 0, none⟩) ms.length ms.length] w fun e w' => e = .returned (.bool true) ∧ Below w.heap.size w w' := by
  by_cases h8 : K = 8
  · subst h8
    clear hb
    go_enter Tryd.func10, Tryd.ntmps10
    go_wp2
    go_ret
    exact ⟨rfl, Below.refl _ _⟩
  · obtain ⟨q, hq, hq1, hq2⟩ : ∃ q, ∃ hq : q < ms.length, (arTo ms q).length + 60 + ms[q].data.length ≤ K ∧ K ≤ (arTo ms q).length + 60 + ms[q].data.length + ms[q].data.length % 2 := by
      rcases hb.out with h | h
      · exact absurd h h8
      · exact h
    clear hb
    have HQ : Hid ((arTo ms q).length + 60 + ms[q].data.length ≤ K ∧ K ≤ (arTo ms q).length + 60 + ms[q].data.length + ms[q].data.length % 2) := ⟨hq1, hq2⟩
    clear hq1 hq2
    have hi8 : ((K : Int) == 8) = false := by rw [beq_eq_false_iff_ne]; omega
    clear h8
    obtain rfl := ha (by omega)
    clear ha
    go_enter Tryd.func10, Tryd.ntmps10
    go_wp2
    go_loopw [13] (fun i wr => ∃ k : Nat, k ≤ q ∧ i = .int .i64 k ∧ Below w.heap.size w wr) (fun i _ => q + 1 - (intOf i).toNat)
    case atStart => exact ⟨0, Nat.zero_le _, rfl, Below.refl _ _⟩
    case round =>
      obtain ⟨k, hk, rfl, hnx⟩ := hrel
      have hkl : k < ms.length := by omega
      obtain ⟨pd, cd, pf, cf, c0, c1, _⟩ := (hC.out.below hnx) k hkl
      have e0 := hO.out.below hnx k hkl
      have hsm := arTo_small hok.out h64 k (by omega)
      have hdl : ms[k].data.length ≤ 65536 := (hok.out k hkl).2.2.1
      have hq' : Hid (k = q → (arTo ms k).length + 60 + ms[k].data.length ≤ K ∧ K ≤ (arTo ms k).length + 60 + ms[k].data.length + ms[k].data.length % 2) := fun e => by subst e; exact HQ.out
      have hki : (k : Int) < (ms.length : Int) := by omega
      generalize (arTo ms k).length = A at *
      generalize ms[k].data.length = D at *
      clear c0
      go_wp2
      go_quiet (fail)
      go_wp2
      · go_ret
        exact ⟨rfl, hnx.trans ((below_drewNg wr nq).mono hnx.size)⟩
      · go_ret
        exact ⟨rfl, hnx.trans ((below_drewNg wr nq).mono hnx.size)⟩
      · have h1 : ((K : Int) == (A : Int) + 60 + (D : Int)) = false ∧ ((K : Int) == (A : Int) + 60 + (D : Int) + (D : Int) % 2) = false := by assumption
        have h2 := ne_of_beq_false h1.1
        have h3 := ne_of_beq_false h1.2
        have hkq : k < q := by
          rcases Nat.lt_or_ge k q with h | h
          · exact h
          · have := hq'.out (by omega)
            exfalso
            omega
        exact ⟨⟨k + 1, by omega, by go_num, hnx.trans ((below_drewNg wr nq).mono hnx.size)⟩, by simp only [intOf]; omega⟩
end Go.Proofs.Qxb6003829aDoor
