/-
  THE WALK of index over a target (44).
-/
import Derived.Test.Qxb6613124aDoorMatch
namespace Go.Proofs.Qxb6613124aDoor
open Go.RowKit

set_option maxHeartbeats 400000 in
set_option maxRecDepth 100000 in
theorem tindex (s : ByteArray) (L : Nat) (g : ByteArray) (ev : Bool) (t : ByteArray) (a : Nat) (w : World) (hs : s.size ≤ 1048576) (hL : L ≤ 1048576) (ht : t.size ≤ 1048576) (ha : a ≤ s.size + L) :
    Calls Tryd.prog 44 #[.agg #[.string s, .int .i64 L, .string g, .bool ev], .string t, .int .i64 a] w fun e w' => e = .returned (.int .i64 (idxI (takeB false s.data.toList g.data.toList (!ev)) (s.size + L) t.data.toList a)) ∧ Below w.heap.size w w' := by
  have hm1 := tm_len s g L ev
  obtain ⟨n, hn⟩ : ∃ n : Nat, s.size + L = n := ⟨_, rfl⟩
  have hN : n ≤ 2097152 := by omega
  have HLn := hid (tlen s L g ev)
  have HM := hid (tmatch s L g ev t)
  simp only [hn] at HLn HM
  rw [hn]
  rw [hn] at ha
  go_enter Tryd.func44, Tryd.ntmps44
  go_wp2
  go_loopw [7] (fun sj wr => ∃ i : Nat, a ≤ i ∧ i ≤ n + 1 ∧ sj = .int .i64 i ∧ Hid (idxI (takeB false s.data.toList g.data.toList (!ev)) n t.data.toList a = idxI (takeB false s.data.toList g.data.toList (!ev)) n t.data.toList i) ∧ Hid (TgtAt wr w.heap.size s L g ev ∧ Below w.heap.size w wr ∧ w.heap.size < wr.heap.size)) (fun j _ => n + 1 - (intOf j).toNat)
  case atStart =>
    refine ⟨a, Nat.le_refl _, by omega, rfl, (rfl : _ = _), (?_ : _ ∧ _)⟩
    exact ⟨TgtAt.new w s L g ev, (Below.refl _ _).alloc (Nat.le_refl _) _, by simp⟩
  case round =>
    obtain ⟨i, hai, hi, rfl, hinv, hBr⟩ := hrel
    obtain ⟨⟨c0, c1, c2, c3⟩, _⟩ := hBr.out
    have HLw := hid (HLn.out wr hs hL)
    by_cases hlt : i + t.size ≤ n
    · obtain ⟨b, hb⟩ : ∃ b, matchB (takeB false s.data.toList g.data.toList (!ev)) n t.data.toList i = b := ⟨_, rfl⟩
      have HB := hid hb
      have hma := hid (fun w => HM.out i w hs hL ht (by omega))
      rw [hb] at hma
      clear hb
      go_wp2_with (go_at_call 45; refine HLw.out.mono ?_; rintro e w1 ⟨rfl, hb1⟩; have hT1 := hBr.out.1.below hb1 hBr.out.2.2; have hz1 := hb1.size; have hBB := hBr.out.2.1.trans (hb1.mono hBr.out.2.1.size); clear c0 c1 c2 c3; obtain ⟨c0, c1, c2, c3⟩ := hT1)
      refine (hma.out w1).mono ?_
      rintro e w2 ⟨rfl, hb2⟩
      have hE : Hid (TgtAt w2 w.heap.size s L g ev ∧ Below w.heap.size w w2 ∧ w.heap.size < w2.heap.size) := by
        have hz2 := hb2.size
        have hz0 := hBr.out.2.2
        have hT : TgtAt w1 w.heap.size s L g ev := ⟨c0, c1, c2, c3⟩
        have h : TgtAt w2 w.heap.size s L g ev ∧ Below w.heap.size w w2 ∧ w.heap.size < w2.heap.size := ⟨hT.below hb2 (by omega), hBB.trans (hb2.mono hBB.size), by omega⟩
        exact h
      clear c0 c1 c2 c3 hb1 hb2 hz1 hBB
      cases b
      · have hst := hid (hinv.out.trans (idxI_next _ _ _ _ (by simpa using hlt) HB.out))
        go_wp2
        exact ⟨⟨i + 1, by omega, by omega, by go_num, hst, hE⟩, by simp [intOf]; omega⟩
      · have hst := hid (hinv.out.trans (idxI_here _ _ _ _ HB.out))
        go_wp2
        go_ret
        exact ⟨ret_int hst.out.symm, hE.out.2.1⟩
    · have hst := hid (hinv.out.trans (idxI_none _ _ _ _ (by simpa using hlt)))
      go_wp2_with (go_at_call 45; refine HLw.out.mono ?_; rintro e w1 ⟨rfl, hb1⟩)
      go_ret
      exact ⟨ret_int hst.out.symm, hBr.out.2.1.trans (hb1.mono hBr.out.2.1.size)⟩
end Go.Proofs.Qxb6613124aDoor
