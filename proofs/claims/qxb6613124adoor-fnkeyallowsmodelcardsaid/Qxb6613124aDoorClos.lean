/-
  THE WALKS of actionMatch (35), exactMatch (24) and the closures of covers: 32, 34, 36, 38.
-/
import Derived.Test.Qxb6613124aDoorWildA
import Derived.Test.Qxb6613124aDoorWildT
import Derived.Test.Qxb6613124aDoorFuncs2
namespace Go.Proofs.Qxb6613124aDoor
open Go.RowKit

/-- The action's text is covered by the pattern a. -/
noncomputable def actB (action : ByteArray) (a : ByteArray) : Bool := D (takeB true (bs action) [] false) (bs a) action.size
/-- The resource is covered by the pattern x. -/
noncomputable def resB (resource : ByteArray) (L : Nat) (digits : ByteArray) (deny : Bool) (x : ByteArray) : Bool := D (takeB false (bs resource) (bs digits) deny) (bs x) (resource.size + L)
/-- The resource is x itself. -/
def exactB (resource : ByteArray) (L : Nat) (digits : ByteArray) (deny : Bool) (x : ByteArray) : Bool := decide (x.size = resource.size + L) && matchB (takeB false (bs resource) (bs digits) deny) (resource.size + L) (bs x) 0
/-- One of who is x. -/
def oneOf (who : List ByteArray) (x : ByteArray) : Bool := who.any fun y => x.toList == y.toList

set_option maxHeartbeats 400000 in
set_option maxRecDepth 100000 in
theorem actionMatch (a s : ByteArray) (w : World) (ha : a.size ≤ 1048576) (hs : s.size ≤ 1048576) (hV : Cases w) :
    Calls Tryd.prog 35 #[.string a, .string s] w fun e w' => e = .returned (.bool (actB s a)) ∧ Below w.heap.size w w' := by
  go_enter Tryd.func35, Tryd.ntmps35
  go_wp2_with (go_at_call 51; refine (awild a s false w ha hs hV).mono ?_; rintro e w1 ⟨rfl, hb1⟩)
  go_ret
  exact ⟨rfl, hb1⟩

set_option maxHeartbeats 400000 in
set_option maxRecDepth 100000 in
theorem exactMatch (x s : ByteArray) (L : Nat) (g : ByteArray) (ev : Bool) (w : World) (hx : x.size ≤ 1048576) (hs : s.size ≤ 1048576) (hL : L ≤ 1048576) :
    Calls Tryd.prog 24 #[.string x, .agg #[.string s, .int .i64 L, .string g, .bool ev]] w fun e w' => e = .returned (.bool (exactB s L g (!ev) x)) ∧ Below w.heap.size w w' := by
  have hT := hid (TgtAt.new w s L g ev)
  have hB := hid ((Below.refl w.heap.size w).alloc (Nat.le_refl _) (.cells #[.string s, .int .i64 L, .string g, .bool ev] 74))
  have hLn := hid (fun W => tlen s L g ev W hs hL)
  have hMt := hid (fun W => tmatch s L g ev x 0 W hs hL hx (by omega))
  obtain ⟨n, hn⟩ : ∃ n, s.size + L = n := ⟨_, rfl⟩
  obtain ⟨bm, hbm⟩ : ∃ bm, matchB (takeB false (bs s) (bs g) (!ev)) n (bs x) 0 = bm := ⟨_, rfl⟩
  have HE := hid (show exactB s L g (!ev) x = (decide (x.size = n) && bm) by unfold exactB; rw [hn, hbm])
  rw [hn] at hLn hMt
  have hMt' := hid (show ∀ W, Calls Tryd.prog 41 #[.agg #[.string s, .int .i64 L, .string g, .bool ev], .string x, .int .i64 0] W fun e w' => e = .returned (.bool bm) ∧ Below W.heap.size W w' by intro W; have := hMt.out W; rw [hbm] at this; exact this)
  clear hMt hbm
  by_cases hz : x.size = n
  · have hzb : ((x.size : Int) == (n : Int)) = true := beq_iff_eq.2 (by omega)
    go_enter Tryd.func24, Tryd.ntmps24
    go_wp2_with (first
      | (go_at_call 45; refine (hLn.out _).mono ?_; rintro e w1 ⟨rfl, hb1⟩; have hT1 := hid (hT.out.below hb1 (by simp)); obtain ⟨c0, c1, c2, c3⟩ := hT1.out)
      | (go_at_call 41; refine (hMt'.out _).mono ?_; rintro e w2 ⟨rfl, hb2⟩))
    go_ret
    exact ⟨ret_bool (by rw [HE.out, decide_eq_true hz, Bool.true_and]), (hB.out.trans (hb1.mono hB.out.size)).trans (hb2.mono (Nat.le_trans hB.out.size hb1.size))⟩
  · have hzb : ((x.size : Int) == (n : Int)) = false := beq_eq_false_iff_ne.2 (by omega)
    go_enter Tryd.func24, Tryd.ntmps24
    go_wp2_with (first
      | (go_at_call 45; refine (hLn.out _).mono ?_; rintro e w1 ⟨rfl, hb1⟩))
    go_ret
    exact ⟨ret_bool (by rw [HE.out, decide_eq_false hz, Bool.false_and]), hB.out.trans (hb1.mono hB.out.size)⟩

set_option maxHeartbeats 400000 in
set_option maxRecDepth 100000 in
theorem clos1 (x : ByteArray) (who : List ByteArray) (B : Nat) (p : Option Addr) (cp : Nat) (w : World) (hl : who.length ≤ 1048576) (c : w.cell? ⟨B, 0, none⟩ = some (.slice p who.length cp)) (hS : Hid (StrsAt w p who)) :
    Calls Tryd.prog 32 #[.string x, .pointer (some ⟨B, 0, none⟩)] w fun e w' => e = .returned (.bool (oneOf who x)) ∧ Below w.heap.size w w' := by
  go_enter Tryd.func32, Tryd.ntmps32
  go_wp2_with (go_at_call 33; refine (contS x who p cp w hl hS).mono ?_; rintro e w1 ⟨rfl, rfl⟩)
  go_ret
  exact ⟨rfl, Below.refl _ _⟩

set_option maxHeartbeats 400000 in
set_option maxRecDepth 100000 in
theorem clos2 (a s : ByteArray) (B : Nat) (w : World) (ha : a.size ≤ 1048576) (hs : s.size ≤ 1048576) (hV : Hid (Cases w)) (c : w.cell? ⟨B, 2, none⟩ = some (.string s)) :
    Calls Tryd.prog 34 #[.string a, .pointer (some ⟨B, 0, none⟩)] w fun e w' => e = .returned (.bool (actB s a)) ∧ Below w.heap.size w w' := by
  go_enter Tryd.func34, Tryd.ntmps34
  go_wp2_with (go_at_call 35; refine (actionMatch a s w ha hs hV.out).mono ?_; rintro e w1 ⟨rfl, hb1⟩)
  go_ret
  exact ⟨rfl, hb1⟩

set_option maxHeartbeats 400000 in
set_option maxRecDepth 100000 in
theorem clos3w (x s : ByteArray) (L : Nat) (g : ByteArray) (ev : Bool) (B T : Nat) (w : World) (hx : x.size ≤ 1048576) (hs : s.size ≤ 1048576) (hL : L ≤ 1048576) (c : w.cell? ⟨B, 0, none⟩ = some (.func (.func 23) #[] #[])) (hT : TgtAt w T s L g ev) :
    Calls Tryd.prog 36 #[.string x, .pointer (some ⟨B, 0, none⟩), .pointer (some ⟨T, 0, none⟩)] w fun e w' => e = .returned (.bool (resB s L g (!ev) x)) ∧ Below w.heap.size w w' := by
  obtain ⟨c0, c1, c2, c3⟩ := hT
  go_enter Tryd.func36, Tryd.ntmps36
  go_wp2_with (go_at_call 23; refine (twild x s L g ev w hx hs hL).mono ?_; rintro e w1 ⟨rfl, hb1⟩)
  go_ret
  exact ⟨rfl, hb1⟩

set_option maxHeartbeats 400000 in
set_option maxRecDepth 100000 in
theorem clos3e (x s : ByteArray) (L : Nat) (g : ByteArray) (ev : Bool) (B T : Nat) (w : World) (hx : x.size ≤ 1048576) (hs : s.size ≤ 1048576) (hL : L ≤ 1048576) (c : w.cell? ⟨B, 0, none⟩ = some (.func (.func 24) #[] #[])) (hT : TgtAt w T s L g ev) :
    Calls Tryd.prog 36 #[.string x, .pointer (some ⟨B, 0, none⟩), .pointer (some ⟨T, 0, none⟩)] w fun e w' => e = .returned (.bool (exactB s L g (!ev) x)) ∧ Below w.heap.size w w' := by
  obtain ⟨c0, c1, c2, c3⟩ := hT
  go_enter Tryd.func36, Tryd.ntmps36
  go_wp2_with (go_at_call 24; refine (exactMatch x s L g ev w hx hs hL).mono ?_; rintro e w1 ⟨rfl, hb1⟩)
  go_ret
  exact ⟨rfl, hb1⟩

/-- The request's seven cells lie at block B. -/
def RqAt (w : World) (B : Nat) (r : Rq) : Prop := w.cell? ⟨B, 0, none⟩ = some (.string r.principal) ∧ w.cell? ⟨B, 1, none⟩ = some (.string r.account) ∧ w.cell? ⟨B, 2, none⟩ = some (.string r.action) ∧ w.cell? ⟨B, 3, none⟩ = some (.string r.resource) ∧ w.cell? ⟨B, 4, none⟩ = some (.int .i64 r.len) ∧ w.cell? ⟨B, 5, none⟩ = some (.string r.digits) ∧ w.cell? ⟨B, 6, none⟩ = some r.mv
theorem RqAt.below {w w' : World} {B : Nat} {r : Rq} (h : RqAt w B r) (hb : Below w.heap.size w w') : RqAt w' B r := by
  have k : ∀ {a : Addr} {v : Value}, w.cell? a = some v → w'.cell? a = some v := fun {a v} hx => (hb.cell (block_lt_of_cell hx)).trans hx
  exact ⟨k h.1, k h.2.1, k h.2.2.1, k h.2.2.2.1, k h.2.2.2.2.1, k h.2.2.2.2.2.1, k h.2.2.2.2.2.2⟩
theorem RqAt.new (w : World) (r : Rq) : RqAt (w.alloc (.cells #[.string r.principal, .string r.account, .string r.action, .string r.resource, .int .i64 r.len, .string r.digits, r.mv] 30)) w.heap.size r :=
  ⟨new_cell w _ 30 0 (by simp), new_cell w _ 30 1 (by simp), new_cell w _ 30 2 (by simp), new_cell w _ 30 3 (by simp), new_cell w _ 30 4 (by simp), new_cell w _ 30 5 (by simp), new_cell w _ 30 6 (by simp)⟩

set_option maxHeartbeats 400000 in
set_option maxRecDepth 100000 in
theorem clos4 (v : CV) (r : Rq) (f : Int → Option (List UInt8)) (B : Nat) (w : World) (hR : RqAt w B r) (hS : Hid (StrsAt w v.p v.c.vals)) (hT : Hid (FoldTab w)) (hM : Hid (MapAll w r.mv f)) (hc : Hid (CondOk w f v.c)) :
    Calls Tryd.prog 38 #[.agg #[.bool v.c.neg, .bool v.c.ic, .int .i64 v.c.pcr, .slice v.p v.c.vals.length v.cp], .pointer (some ⟨B, 0, none⟩)] w fun e w' => e = .returned (.bool (!holdsB f v.c)) ∧ Below w.heap.size w w' := by
  have hB := hid ((Below.refl w.heap.size w).alloc (Nat.le_refl _) (.cells #[.bool v.c.neg, .bool v.c.ic, .int .i64 v.c.pcr, .slice v.p v.c.vals.length v.cp] 63))
  obtain ⟨c0, c1, c2, c3, c4, c5, c6⟩ := hR.below hB.out
  go_enter Tryd.func38, Tryd.ntmps38
  go_wp2_with (go_at_call 39; refine (holds_any v.c v.p v.cp _ _ _ _ _ _ r.mv f _ (hid (hS.out.below hB.out)) (hid (hT.out.below hB.out)) (hid (fun W hb => hM.out W (hB.out.trans (hb.mono hB.out.size)))) (hid ⟨hc.out.vals, hc.out.size, hc.out.key, hc.out.look⟩)).mono ?_; rintro e w1 ⟨rfl, hb1⟩)
  go_ret
  exact ⟨rfl, hB.out.trans (hb1.mono hB.out.size)⟩
end Go.Proofs.Qxb6613124aDoor
