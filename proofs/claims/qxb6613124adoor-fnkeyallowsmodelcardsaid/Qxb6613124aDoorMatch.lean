/-
  THE WALKS of matchAt over a target (41), and index over both subjects (62, 44).
-/
import Derived.Test.Qxb6613124aDoorSubject
namespace Go.Proofs.Qxb6613124aDoor
open Go.RowKit

theorem new_cell (w : World) (c : Array Value) (ty : TypeId) (j : Nat) (h : j < c.size) : (w.alloc (.cells c ty)).cell? ⟨w.heap.size, j, none⟩ = some c[j] := by
  have := (World.rowIs_alloc w c ty (fun j => c.getD j undef) (fun i hi => by simp [Array.getD, hi])).cell h
  rw [this]
  simp [Array.getD, h]
theorem new_frozen (w : World) (c : Array Value) (ty : TypeId) (j : Nat) : (w.alloc (.cells c ty)).frozen? ⟨w.heap.size, j, none⟩ = false :=
  (World.rowIs_alloc w c ty (fun j => c.getD j undef) (fun i hi => by simp [Array.getD, hi])).frozen j

/-- The four cells of a target lie at block b. -/
def TgtAt (w : World) (b : Nat) (s : ByteArray) (L : Nat) (g : ByteArray) (ev : Bool) : Prop :=
  w.cell? ⟨b, 0, none⟩ = some (.string s) ∧ w.cell? ⟨b, 1, none⟩ = some (.int .i64 L) ∧ w.cell? ⟨b, 2, none⟩ = some (.string g) ∧ w.cell? ⟨b, 3, none⟩ = some (.bool ev)
theorem TgtAt.new (w : World) (s : ByteArray) (L : Nat) (g : ByteArray) (ev : Bool) : TgtAt (w.alloc (.cells #[.string s, .int .i64 L, .string g, .bool ev] 74)) w.heap.size s L g ev :=
  ⟨new_cell w _ 74 0 (by simp), new_cell w _ 74 1 (by simp), new_cell w _ 74 2 (by simp), new_cell w _ 74 3 (by simp)⟩
theorem TgtAt.below {w w' : World} {b : Nat} {s : ByteArray} {L : Nat} {g : ByteArray} {ev : Bool} (h : TgtAt w b s L g ev) {m : Nat} (hb : Below m w w') (hm : b < m) : TgtAt w' b s L g ev :=
  ⟨(hb.cell (p := ⟨b, 0, none⟩) hm).trans h.1, (hb.cell (p := ⟨b, 1, none⟩) hm).trans h.2.1, (hb.cell (p := ⟨b, 2, none⟩) hm).trans h.2.2.1, (hb.cell (p := ⟨b, 3, none⟩) hm).trans h.2.2.2⟩

theorem ttakes_is (s : ByteArray) (L : Nat) (g : ByteArray) (e : Bool) (i : Nat) (c : UInt8) (w : World) {x : Bool} (hx : takeB false s.data.toList g.data.toList (!e) i c = x) :
    Calls Tryd.prog 101 #[.agg #[.string s, .int .i64 L, .string g, .bool e], .int .i64 i, .int .u8 c.toNat] w fun r w' => r = .returned (.bool x) ∧ Below w.heap.size w w' := by
  subst hx
  exact ttakes s L g e i c w

set_option maxHeartbeats 400000 in
set_option maxRecDepth 100000 in
theorem tmatch (s : ByteArray) (L : Nat) (g : ByteArray) (ev : Bool) (t : ByteArray) (i : Nat) (w : World) (hs : s.size ≤ 1048576) (hL : L ≤ 1048576) (ht : t.size ≤ 1048576) (hi : i ≤ 4194304) :
    Calls Tryd.prog 41 #[.agg #[.string s, .int .i64 L, .string g, .bool ev], .string t, .int .i64 i] w fun e w' => e = .returned (.bool (matchB (takeB false s.data.toList g.data.toList (!ev)) (s.size + L) t.data.toList i)) ∧ Below w.heap.size w w' := by
  have hm1 := tm_len s g L ev
  have hm2 := tm_takes s g L ev
  obtain ⟨n, hn⟩ : ∃ n : Nat, s.size + L = n := ⟨_, rfl⟩
  have hN : n ≤ 2097152 := by omega
  have HLn := hid (tlen s L g ev)
  rw [hn] at *
  by_cases hlen : i + t.size ≤ n
  · go_enter Tryd.func41, Tryd.ntmps41
    go_wp2_with (go_at_call 45; refine (HLn.out _ hs hL).mono ?_; rintro e w1 ⟨rfl, hb1⟩)
    go_loopw [18] (fun sj wr => ∃ j : Nat, j ≤ t.size ∧ sj = .int .i64 j ∧ Hid (∀ (q : Nat) (hq : q < t.size), q < j → takeB false s.data.toList g.data.toList (!ev) (i + q) t[q] = true) ∧ Hid (TgtAt wr w.heap.size s L g ev ∧ Below w.heap.size w wr)) (fun j _ => t.size - (intOf j).toNat)
    case atStart =>
      refine ⟨0, Nat.zero_le _, rfl, (by intro q _ h; omega : ∀ (q : Nat) (hq : q < t.size), q < 0 → takeB false s.data.toList g.data.toList (!ev) (i + q) t[q] = true), (?_ : _ ∧ _)⟩
      exact ⟨(TgtAt.new w s L g ev).below hb1 (by simp), ((Below.refl _ _).alloc (Nat.le_refl _) _).trans (hb1.mono (by simp))⟩
    case round =>
      clear hb1
      obtain ⟨j, hj, rfl, hall, hBr⟩ := hrel
      obtain ⟨⟨c0, c1, c2, c3⟩, _⟩ := hBr.out
      by_cases hlt : j < t.size
      · obtain ⟨c, hc⟩ : ∃ c : UInt8, t[j]'(by omega) = c := ⟨_, rfl⟩
        obtain ⟨b, hb⟩ : ∃ b, takeB false s.data.toList g.data.toList (!ev) (i + j) c = b := ⟨_, rfl⟩
        have HB := hid hb
        clear hb
        have q0 := cell_regrown c0
        have q1 := cell_regrown c1
        have q2 := cell_regrown c2
        have q3 := cell_regrown c3
        clear c0 c1 c2 c3
        go_wp2
        refine wp_region_quiet_below (by kernel_rfl) (by kernel_rfl) ?_
        repeat (first | go_big_quiet_step (exact Calls.regrown_of (ttakes_is _ _ _ _ _ _ _ HB.out)) | quiet_step (exact Calls.regrown_of (ttakes_is _ _ _ _ _ _ _ HB.out)))
        refine wpQuiet_nil ?_
        intro _ hw'
        obtain ⟨⟨dq, osq⟩, hw''⟩ := hw'
        subst hw''
        have hBq : Hid (TgtAt (Sort.grow (redrawn wr dq) osq) w.heap.size s L g ev ∧ Below w.heap.size w (Sort.grow (redrawn wr dq) osq)) := (⟨⟨q0 dq osq, q1 dq osq, q2 dq osq, q3 dq osq⟩, hBr.out.2.trans ((below_regrown wr dq osq).mono hBr.out.2.size)⟩ : _ ∧ _)
        clear q0 q1 q2 q3
        generalize Sort.grow (redrawn wr dq) osq = w2 at *
        cases b
        · go_wp2
          go_ret
          exact ⟨ret_bool (matchB_no _ _ t i j hlt (by rw [hc]; exact HB.out)).symm, hBq.out.2⟩
        · go_wp2
          refine ⟨⟨j + 1, by omega, by go_num, ?_, hBq⟩, by simp [intOf]; omega⟩
          have h : ∀ (q : Nat) (hq : q < t.size), q < j + 1 → takeB false s.data.toList g.data.toList (!ev) (i + q) t[q] = true := by
            intro q hq hqj
            by_cases e : q = j
            · subst e; rw [hc]; exact HB.out
            · exact hall.out q hq (by omega)
          exact h
      · obtain rfl : j = t.size := by omega
        go_wp2
        go_ret
        exact ⟨ret_bool (matchB_yes _ _ t i hlen (fun q hq => hall.out q hq hq)).symm, hBr.out.2⟩
  · have HM := hid (matchB_long (takeB false s.data.toList g.data.toList (!ev)) n t.data.toList i (by simpa using hlen))
    go_enter Tryd.func41, Tryd.ntmps41
    go_wp2_with (go_at_call 45; refine (HLn.out _ hs hL).mono ?_; rintro e w1 ⟨rfl, hb1⟩)
    go_ret
    exact ⟨ret_bool HM.out.symm, ((Below.refl _ _).alloc (Nat.le_refl _) _).trans (hb1.mono (by simp))⟩

/-- What index answers: the first place, or -1. -/
def idxI (tk : Nat → UInt8 → Bool) (n : Nat) (t : List UInt8) (a : Nat) : Int := match idx tk n t (n + 1 - a) a with | some i => i | none => -1

theorem idxI_next (tk : Nat → UInt8 → Bool) (n : Nat) (t : List UInt8) (i : Nat) (h : i + t.length ≤ n) (hb : matchB tk n t i = false) : idxI tk n t i = idxI tk n t (i + 1) := by
  unfold idxI
  rw [show n + 1 - i = (n + 1 - (i + 1)) + 1 by omega]
  conv => lhs; unfold idx
  rw [if_pos h]
  unfold matchB at hb
  rw [decide_eq_true h, Bool.true_and] at hb
  rw [hb]
  rfl
theorem idxI_here (tk : Nat → UInt8 → Bool) (n : Nat) (t : List UInt8) (i : Nat) (hb : matchB tk n t i = true) : idxI tk n t i = i := by
  have h := ((matchB_iff tk n t i).1 hb).1
  unfold idxI
  rw [show n + 1 - i = (n + 1 - (i + 1)) + 1 by omega]
  conv => lhs; unfold idx
  rw [if_pos h]
  unfold matchB at hb
  rw [decide_eq_true h, Bool.true_and] at hb
  rw [hb]
  rfl
theorem idxI_none (tk : Nat → UInt8 → Bool) (n : Nat) (t : List UInt8) (i : Nat) (h : ¬ i + t.length ≤ n) : idxI tk n t i = -1 := by
  unfold idxI
  cases n + 1 - i with
  | zero => rfl
  | succ f =>
    conv => lhs; unfold idx
    rw [if_neg h]

set_option maxHeartbeats 400000 in
set_option maxRecDepth 100000 in
theorem aindex (s t : ByteArray) (a : Nat) (any : Bool) (w0 w : World) (hs : s.size ≤ 1048576) (ht : t.size ≤ 1048576) (ha : a ≤ s.size) (hV : Hid (Cases w0)) (hB : Below w0.heap.size w0 w) :
    Calls Tryd.prog 62 #[.string s, .string t, .int .i64 a] w fun e w' => e = .returned (.int .i64 (idxI (takeB true s.data.toList [] any) s.size t.data.toList a)) ∧ Below w0.heap.size w0 w' := by
  have hm1 := am_len s
  go_enter Tryd.func62, Tryd.ntmps62
  go_wp2
  go_loopw [7] (fun sj wr => ∃ i : Nat, a ≤ i ∧ i ≤ s.size + 1 ∧ sj = .int .i64 i ∧ Hid (idxI (takeB true s.data.toList [] any) s.size t.data.toList a = idxI (takeB true s.data.toList [] any) s.size t.data.toList i) ∧ Below w0.heap.size w0 wr) (fun j _ => s.size + 1 - (intOf j).toNat)
  case atStart => exact ⟨a, Nat.le_refl _, by omega, rfl, (rfl : _ = _), hB⟩
  case round =>
    obtain ⟨i, hai, hi, rfl, hinv, hBr⟩ := hrel
    by_cases hlt : i + t.size ≤ s.size
    · obtain ⟨b, hb⟩ : ∃ b, matchB (takeB true s.data.toList [] any) s.size t.data.toList i = b := ⟨_, rfl⟩
      have HB := hid hb
      have hma := amatch s t i any w0 wr hs ht (by omega) hV hBr
      rw [hb] at hma
      clear hb
      cases b
      · have hst := hid (hinv.out.trans (idxI_next _ _ _ _ (by simpa using hlt) HB.out))
        go_wp2_with (first
          | (go_at_call 103; refine (alen s _).mono ?_; rintro e w1 ⟨rfl, rfl⟩)
          | (go_at_call 61; refine hma.mono ?_; rintro e w1 ⟨rfl, hb1⟩))
        exact ⟨⟨i + 1, by omega, by omega, by go_num, hst, hb1⟩, by simp [intOf]; omega⟩
      · have hst := hid (hinv.out.trans (idxI_here _ _ _ _ HB.out))
        go_wp2_with (first
          | (go_at_call 103; refine (alen s _).mono ?_; rintro e w1 ⟨rfl, rfl⟩)
          | (go_at_call 61; refine hma.mono ?_; rintro e w1 ⟨rfl, hb1⟩))
        go_ret
        exact ⟨ret_int hst.out.symm, hb1⟩
    · have hst := hid (hinv.out.trans (idxI_none _ _ _ _ (by simpa using hlt)))
      go_wp2_with (go_at_call 103; refine (alen s _).mono ?_; rintro e w1 ⟨rfl, rfl⟩)
      go_ret
      exact ⟨ret_int hst.out.symm, hBr⟩
end Go.Proofs.Qxb6613124aDoor
