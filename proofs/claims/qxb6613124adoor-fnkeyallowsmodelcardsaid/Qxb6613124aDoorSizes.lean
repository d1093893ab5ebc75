/-
  THE WALKS of the sizes: zzAdd (17), zzStringsSize (18), zzConditionsSize (19), zzRequestSize (16).
-/
import Derived.Test.Qxb6613124aDoorFuncs2
import Derived.Test.Qxb6613124aDoorClos
namespace Go.Proofs.Qxb6613124aDoor
open Go.RowKit

/-- A number comes back, at most one more than the limit; within the limit it tells that n was and that P holds. -/
def SizeP (n : Nat) (P : Prop) (e : Ending) : Prop := ∃ m : Nat, e = .returned (.int .i64 (m : Int)) ∧ m ≤ 1048577 ∧ (m ≤ 1048576 → n ≤ 1048576 ∧ P)
theorem sizeP_out {n : Nat} {P : Prop} : SizeP n P (.returned (.int .i64 1048577)) := ⟨1048577, rfl, Nat.le_refl _, fun h => by omega⟩
theorem sizeP_in {n m : Nat} {P : Prop} {v : Int} (hv : v = (m : Int)) (hm : m ≤ 1048577) (h : m ≤ 1048576 → n ≤ 1048576 ∧ P) : SizeP n P (.returned (.int .i64 v)) := ⟨m, by rw [hv], hm, h⟩

def Small (k : Nat) : Prop := k ≤ 1048576

set_option maxHeartbeats 400000 in
set_option maxRecDepth 100000 in
theorem add_any (n k : Nat) (w : World) (hn : n ≤ 1048577) : Calls Tryd.prog 17 #[.int .i64 n, .int .i64 k] w fun e w' => SizeP n (Small k) e ∧ w' = w := by
  have h0 : ¬ ((k : Int) < 0) := by omega
  by_cases h1 : k ≤ 1048576
  · by_cases h2 : n ≤ 1048576
    · by_cases h3 : n + k ≤ 1048576
      · go_enter Tryd.func17, Tryd.ntmps17
        go_wp2
        go_ret
        exact ⟨sizeP_in (m := n + k) (by omega) (by omega) (fun _ => ⟨h2, h1⟩), rfl⟩
      · go_enter Tryd.func17, Tryd.ntmps17
        go_wp2
        go_ret
        exact ⟨sizeP_out, rfl⟩
    · go_enter Tryd.func17, Tryd.ntmps17
      go_wp2
      go_ret
      exact ⟨sizeP_out, rfl⟩
  · go_enter Tryd.func17, Tryd.ntmps17
    go_wp2
    go_ret
    exact ⟨sizeP_out, rfl⟩

/-- The texts are within the limit. -/
def StrsOk (ss : List ByteArray) : Prop := ss.length ≤ 1048576 ∧ ∀ s ∈ ss, s.size ≤ 1048576
def StrsTo (ss : List ByteArray) (k : Nat) : Prop := ∀ (j : Nat) (h : j < ss.length), j < k → ss[j].size ≤ 1048576

set_option maxHeartbeats 400000 in
set_option maxRecDepth 100000 in
theorem strsSize (n : Nat) (ss : List ByteArray) (p : Option Addr) (cp : Nat) (w : World) (hn : n ≤ 1048577) (hS : Hid (StrsAt w p ss)) :
    Calls Tryd.prog 18 #[.int .i64 n, .slice p ss.length cp] w fun e w' => SizeP n (StrsOk ss) e ∧ w' = w := by
  by_cases hl : ss.length ≤ 1048576
  · go_enter Tryd.func18, Tryd.ntmps18
    go_wp2_with (go_at_call 17; refine (add_any n (16 * ss.length) _ hn).mono ?_; rintro e w1 ⟨⟨m, rfl, hm, hP⟩, rfl⟩)
    go_loopw [0, 5] (fun s0 si wr => ∃ (m k : Nat), k ≤ ss.length ∧ si = .int .i64 k ∧ s0 = .int .i64 m ∧ m ≤ 1048577 ∧ Hid (m ≤ 1048576 → n ≤ 1048576 ∧ StrsTo ss k) ∧ wr = w1) (fun _ j _ => ss.length - (intOf j).toNat)
    case atStart => exact ⟨m, 0, Nat.zero_le _, rfl, rfl, hm, hid (fun h => ⟨(hP h).1, fun j _ h0 => by omega⟩), rfl⟩
    case round =>
      obtain ⟨m, k, hk, rfl, rfl, hm, hP2, rfl⟩ := hrel
      by_cases hgo : m ≤ 1048576 ∧ k < ss.length
      · obtain ⟨hm1, hlt⟩ := hgo
        obtain ⟨bb, o, rfl, hcell⟩ := hS.out (by omega)
        have hck := hcell k hlt
        obtain ⟨x, hx⟩ : ∃ x, ss[k] = x := ⟨_, rfl⟩
        rw [hx] at hck
        have HX := hid hx
        clear hx hcell
        have hA := hid (add_any m x.size wr hm)
        go_wp2_with (go_at_call 17; refine hA.out.mono ?_; rintro e w2 ⟨⟨m2, rfl, hm2, hP3⟩, rfl⟩)
        refine ⟨⟨m2, k + 1, by omega, by go_num, rfl, hm2, hid (fun h => ⟨(hP2.out hm1).1, ?_⟩), by first | rfl | trivial⟩, by simp [intOf]; omega⟩
        intro j hj hjk
        by_cases e : j = k
        · subst e; rw [HX.out]; exact (hP3 h).2
        · exact (hP2.out hm1).2 j hj (by omega)
      · by_cases hlt : k < ss.length
        · have hm1 : ¬ ((m : Int) ≤ 1048576) := fun h => hgo ⟨by omega, hlt⟩
          go_wp2
          go_ret
          exact ⟨sizeP_in rfl hm (fun h => absurd h (by omega)), rfl⟩
        · obtain rfl : k = ss.length := by omega
          go_wp2
          go_ret
          refine ⟨sizeP_in rfl hm (fun h => ⟨(hP2.out h).1, hl, fun s hs => ?_⟩), rfl⟩
          obtain ⟨j, hj, rfl⟩ := List.getElem_of_mem hs
          exact (hP2.out h).2 j hj hj
  · have hl' : ¬ ((ss.length : Int) ≤ 1048576) := by omega
    go_enter Tryd.func18, Tryd.ntmps18
    go_wp2
    go_ret
    exact ⟨sizeP_out, rfl⟩

/-- A condition is within the limit. -/
def CondSm (f : Int → Option (List UInt8)) (v : CV) : Prop := StrsOk v.c.vals ∧ ∀ l, f v.c.pcr = some l → l.length ≤ 1048576
def CondsOk (f : Int → Option (List UInt8)) (cs : List CV) : Prop := cs.length ≤ 1048576 ∧ ∀ v ∈ cs, CondSm f v
def CondsTo (f : Int → Option (List UInt8)) (cs : List CV) (k : Nat) : Prop := ∀ (j : Nat) (h : j < cs.length), j < k → CondSm f cs[j]

/-- How long the slice that the map answers is. -/
def lookLen (o : Option (List UInt8)) : Nat := match o with | none => 0 | some l => l.length
theorem look_len {W : World} {mv : Value} {k : Int} {o : Option (List UInt8)} (h : LookAt W mv k o) : ∃ p c, (Instr.lookup 26 mv (.int .i64 k) false).run Tryd.prog W = .ok (.slice p (lookLen o) c) W := by
  cases o with
  | none => exact ⟨none, 0, h.2⟩
  | some l =>
    obtain ⟨p, c, _, h2, _⟩ := h
    exact ⟨p, c, h2⟩

set_option maxHeartbeats 800000 in
set_option maxRecDepth 100000 in
theorem condsSize (n : Nat) (cs : List CV) (p : Option Addr) (cp : Nat) (mv : Value) (f : Int → Option (List UInt8)) (w : World) (hn : n ≤ 1048577) (hC : Hid (CondsAt w p cs)) (hV : Hid (∀ v ∈ cs, StrsAt w v.p v.c.vals)) (hM : Hid (∀ v ∈ cs, LookAt w mv v.c.pcr (f v.c.pcr))) :
    Calls Tryd.prog 19 #[.int .i64 n, .slice p cs.length cp, mv] w fun e w' => SizeP n (CondsOk f cs) e ∧ w' = w := by
  by_cases hl : cs.length ≤ 1048576
  · go_enter Tryd.func19, Tryd.ntmps19
    go_wp2_with (go_at_call 17; refine (add_any n (48 * cs.length) _ hn).mono ?_; rintro e w1 ⟨⟨m, rfl, hm, hP⟩, rfl⟩)
    go_loopw [0, 7] (fun s0 si wr => ∃ (m k : Nat), k ≤ cs.length ∧ si = .int .i64 k ∧ s0 = .int .i64 m ∧ m ≤ 1048577 ∧ Hid (m ≤ 1048576 → n ≤ 1048576 ∧ CondsTo f cs k) ∧ wr = w1) (fun _ j _ => cs.length - (intOf j).toNat)
    case atStart => exact ⟨m, 0, Nat.zero_le _, rfl, rfl, hm, hid (fun h => ⟨(hP h).1, fun j _ h0 => by omega⟩), rfl⟩
    case round =>
      obtain ⟨m, k, hk, rfl, rfl, hm, hP2, rfl⟩ := hrel
      by_cases hgo : m ≤ 1048576 ∧ k < cs.length
      · obtain ⟨hm1, hlt⟩ := hgo
        obtain ⟨bb, o, rfl, hcell⟩ := hC.out (by omega)
        obtain ⟨d0, d1, d2, d3⟩ := hcell k hlt
        have hv := hid (hV.out cs[k] (List.getElem_mem hlt))
        obtain ⟨pl, cl, hlook⟩ := look_len (hM.out cs[k] (List.getElem_mem hlt))
        obtain ⟨x, hx⟩ : ∃ x, cs[k] = x := ⟨_, rfl⟩
        rw [hx] at d0 d1 d2 d3 hv hlook
        have HX := hid hx
        clear hx hcell d0 d1
        have hA := hid (strsSize m x.c.vals x.p x.cp wr hm hv)
        obtain ⟨ln, hln⟩ : ∃ ln, lookLen (f x.c.pcr) = ln := ⟨_, rfl⟩
        rw [hln] at hlook
        have HLN := hid hln
        clear hln
        go_wp2_with (first
          | (go_at_call 18; refine hA.out.mono ?_; rintro e w2 ⟨⟨m2, rfl, hm2, hP3⟩, rfl⟩)
          | (go_at_call 17; refine (add_any m2 ln _ hm2).mono ?_; rintro e w3 ⟨⟨m3, rfl, hm3, hP4⟩, rfl⟩))
        refine ⟨⟨m3, k + 1, by omega, by go_num, rfl, hm3, hid (fun h => ⟨(hP2.out hm1).1, ?_⟩), by first | rfl | trivial⟩, by simp [intOf]; omega⟩
        intro j hj hjk
        by_cases e : j = k
        · subst e
          rw [HX.out]
          refine ⟨(hP3 (hP4 h).1).2, fun l hlf => ?_⟩
          have hz : lookLen (f x.c.pcr) ≤ 1048576 := by rw [HLN.out]; exact (hP4 h).2
          rw [hlf] at hz
          exact hz
        · exact (hP2.out hm1).2 j hj (by omega)
      · by_cases hlt : k < cs.length
        · have hm1 : ¬ ((m : Int) ≤ 1048576) := fun h => hgo ⟨by omega, hlt⟩
          go_wp2
          go_ret
          exact ⟨sizeP_in rfl hm (fun h => absurd h (by omega)), rfl⟩
        · obtain rfl : k = cs.length := by omega
          go_wp2
          go_ret
          refine ⟨sizeP_in rfl hm (fun h => ⟨(hP2.out h).1, hl, fun s hs => ?_⟩), rfl⟩
          obtain ⟨j, hj, rfl⟩ := List.getElem_of_mem hs
          exact (hP2.out h).2 j hj hj
  · have hl' : ¬ ((cs.length : Int) ≤ 1048576) := by omega
    go_enter Tryd.func19, Tryd.ntmps19
    go_wp2
    go_ret
    exact ⟨sizeP_out, rfl⟩

/-- The request is within the limit. -/
def RqOk (r : Rq) : Prop := r.principal.size ≤ 1048576 ∧ r.account.size ≤ 1048576 ∧ r.action.size ≤ 1048576 ∧ r.resource.size ≤ 1048576 ∧ r.digits.size ≤ 1048576

end Go.Proofs.Qxb6613124aDoor
