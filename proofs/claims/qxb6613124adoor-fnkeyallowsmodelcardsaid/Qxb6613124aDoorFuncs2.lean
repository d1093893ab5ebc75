/-
  THE WALKS of slices.IndexFunc and slices.ContainsFunc over conditions (52, 37) and statements (48, 29), with whatever closure.
-/
import Derived.Test.Qxb6613124aDoorCond
namespace Go.Proofs.Qxb6613124aDoor
open Go.RowKit

/-- A condition as it lies in memory: its values' slice is at p. -/
structure CV where
  c : KC
  p : Option Addr
  cp : Nat
def CV.val (v : CV) : Value := .agg #[.bool v.c.neg, .bool v.c.ic, .int .i64 v.c.pcr, .slice v.p v.c.vals.length v.cp]
/-- The slice's address p holds the conditions cs, four cells each. -/
def CondsAt (W : World) (p : Option Addr) (cs : List CV) : Prop := 0 < cs.length → ∃ b o, p = some ⟨b, o, none⟩ ∧ ∀ (j : Nat) (h : j < cs.length), W.cell? ⟨b, o + j * 4, none⟩ = some (.bool cs[j].c.neg) ∧ W.cell? ⟨b, o + j * 4 + 1, none⟩ = some (.bool cs[j].c.ic) ∧ W.cell? ⟨b, o + j * 4 + 2, none⟩ = some (.int .i64 cs[j].c.pcr) ∧ W.cell? ⟨b, o + j * 4 + 3, none⟩ = some (.slice cs[j].p cs[j].c.vals.length cs[j].cp)
theorem CondsAt.below {W W' : World} {p : Option Addr} {cs : List CV} (h : CondsAt W p cs) (hb : Below W.heap.size W W') : CondsAt W' p cs := fun h0 => by
  obtain ⟨b, o, e, hc⟩ := h h0
  have k : ∀ {a : Addr} {v : Value}, W.cell? a = some v → W'.cell? a = some v := fun {a v} hx => (hb.cell (block_lt_of_cell hx)).trans hx
  exact ⟨b, o, e, fun j hj => ⟨k (hc j hj).1, k (hc j hj).2.1, k (hc j hj).2.2.1, k (hc j hj).2.2.2⟩⟩

def AnswersC (w : World) (g : Nat) (caps : Array Value) (cs : List CV) (P : CV → Bool) : Prop := ∀ s ∈ cs, ∀ W, Below w.heap.size w W → Calls Tryd.prog g (#[.agg #[.bool s.c.neg, .bool s.c.ic, .int .i64 s.c.pcr, .slice s.p s.c.vals.length s.cp]] ++ caps) W fun e w' => e = .returned (.bool (P s)) ∧ Below W.heap.size W w'

set_option maxHeartbeats 400000 in
set_option maxRecDepth 100000 in
theorem idxFuncC (g : Nat) (caps : Array Value) (cs : List CV) (P : CV → Bool) (p : Option Addr) (cp : Nat) (w : World) (eg : ∀ args w, (callFunc g args).run Tryd.prog w = .ok (.enter g args) w) (hl : cs.length ≤ 1048576) (hS : Hid (CondsAt w p cs)) (hA : Hid (AnswersC w g caps cs P)) :
    Calls Tryd.prog 52 #[.slice p cs.length cp, .func (.func g) #[] caps] w fun e w' => IdxPost (cs.any P) e ∧ Below w.heap.size w w' := by
  go_enter Tryd.func52, Tryd.ntmps52
  go_wp2
  go_loopw [8] (fun sj wr => ∃ k : Nat, k ≤ cs.length ∧ sj = .int .i64 k ∧ Hid (∀ (q : Nat) (hq : q < cs.length), q < k → P cs[q] = false) ∧ Below w.heap.size w wr) (fun j _ => cs.length - (intOf j).toNat)
  case atStart => exact ⟨0, Nat.zero_le _, rfl, hid (by intro q _ h; omega), Below.refl _ _⟩
  case round =>
    obtain ⟨k, hk, rfl, hno, hB⟩ := hrel
    by_cases hlt : k < cs.length
    · obtain ⟨b, o, rfl, hc⟩ := (hS.out.below hB) (by omega)
      obtain ⟨c0, c1, c2, c3⟩ := hc k hlt
      have hA' := hA.out cs[k] (List.getElem_mem hlt) wr hB
      obtain ⟨bv, hbv⟩ : ∃ bv, P cs[k] = bv := ⟨_, rfl⟩
      rw [hbv] at hA'
      have HBV := hid hbv
      clear hbv hc
      generalize hx : cs[k] = x at *
      have HX := hid hx
      clear hx
      obtain ⟨⟨x0, x1, x2, x3⟩, x4, x5⟩ := x
      dsimp only at *
      cases bv
      · go_wp2_with fail
        refine hA'.mono ?_
        rintro e w1 ⟨rfl, hb1⟩
        go_wp2
        refine ⟨⟨k + 1, by omega, by go_num, hid ?_, hB.trans (hb1.mono hB.size)⟩, by simp [intOf]; omega⟩
        intro q hq hqk
        by_cases e : q = k
        · subst e; rw [HX.out]; exact HBV.out
        · exact hno.out q hq (by omega)
      · go_wp2_with fail
        refine hA'.mono ?_
        rintro e w1 ⟨rfl, hb1⟩
        go_wp2
        go_ret
        refine ⟨⟨k, rfl, ?_⟩, hB.trans (hb1.mono hB.size)⟩
        rw [any_at cs P k hlt (by rw [HX.out]; exact HBV.out)]
        simp
    · obtain rfl : k = cs.length := by omega
      go_wp2
      go_ret
      refine ⟨⟨-1, rfl, ?_⟩, hB⟩
      rw [any_none cs P (fun q hq => hno.out q hq hq)]
      rfl

set_option maxHeartbeats 400000 in
set_option maxRecDepth 100000 in
theorem contFuncC (g : Nat) (caps : Array Value) (cs : List CV) (P : CV → Bool) (p : Option Addr) (cp : Nat) (w : World) (eg : ∀ args w, (callFunc g args).run Tryd.prog w = .ok (.enter g args) w) (hl : cs.length ≤ 1048576) (hS : Hid (CondsAt w p cs)) (hA : Hid (AnswersC w g caps cs P)) :
    Calls Tryd.prog 37 #[.slice p cs.length cp, .func (.func g) #[] caps] w fun e w' => e = .returned (.bool (cs.any P)) ∧ Below w.heap.size w w' := by
  go_enter Tryd.func37, Tryd.ntmps37
  go_wp2_with (go_at_call 52; refine (idxFuncC g caps cs P p cp w eg hl hS hA).mono ?_; rintro e w1 ⟨⟨r, rfl, hr⟩, hb1⟩)
  go_ret
  exact ⟨rfl, hb1⟩

/-- A statement as it lies in memory. -/
structure SV where
  deny : Bool
  acts : List ByteArray
  pa : Option Addr
  ca : Nat
  res : List ByteArray
  pr : Option Addr
  cr : Nat
  prins : List ByteArray
  pp : Option Addr
  cpp : Nat
  conds : List CV
  pc : Option Addr
  cc : Nat
/-- The slice's address p holds the statements ss, five cells each. -/
def StmtsAt (W : World) (p : Option Addr) (ss : List SV) : Prop := 0 < ss.length → ∃ b o, p = some ⟨b, o, none⟩ ∧ ∀ (j : Nat) (h : j < ss.length), W.cell? ⟨b, o + j * 5, none⟩ = some (.bool ss[j].deny) ∧ W.cell? ⟨b, o + j * 5 + 1, none⟩ = some (.slice ss[j].pa ss[j].acts.length ss[j].ca) ∧ W.cell? ⟨b, o + j * 5 + 2, none⟩ = some (.slice ss[j].pr ss[j].res.length ss[j].cr) ∧ W.cell? ⟨b, o + j * 5 + 3, none⟩ = some (.slice ss[j].pp ss[j].prins.length ss[j].cpp) ∧ W.cell? ⟨b, o + j * 5 + 4, none⟩ = some (.slice ss[j].pc ss[j].conds.length ss[j].cc)
theorem StmtsAt.below {W W' : World} {p : Option Addr} {ss : List SV} (h : StmtsAt W p ss) (hb : Below W.heap.size W W') : StmtsAt W' p ss := fun h0 => by
  obtain ⟨b, o, e, hc⟩ := h h0
  have k : ∀ {a : Addr} {v : Value}, W.cell? a = some v → W'.cell? a = some v := fun {a v} hx => (hb.cell (block_lt_of_cell hx)).trans hx
  exact ⟨b, o, e, fun j hj => ⟨k (hc j hj).1, k (hc j hj).2.1, k (hc j hj).2.2.1, k (hc j hj).2.2.2.1, k (hc j hj).2.2.2.2⟩⟩

def AnswersS (w : World) (g : Nat) (caps : Array Value) (ss : List SV) (P : SV → Bool) : Prop := ∀ s ∈ ss, ∀ W, Below w.heap.size w W → Calls Tryd.prog g (#[.agg #[.bool s.deny, .slice s.pa s.acts.length s.ca, .slice s.pr s.res.length s.cr, .slice s.pp s.prins.length s.cpp, .slice s.pc s.conds.length s.cc]] ++ caps) W fun e w' => e = .returned (.bool (P s)) ∧ Below W.heap.size W w'

set_option maxHeartbeats 400000 in
set_option maxRecDepth 100000 in
theorem idxFuncT (g : Nat) (caps : Array Value) (ss : List SV) (P : SV → Bool) (p : Option Addr) (cp : Nat) (w : World) (eg : ∀ args w, (callFunc g args).run Tryd.prog w = .ok (.enter g args) w) (hl : ss.length ≤ 1048576) (hS : Hid (StmtsAt w p ss)) (hA : Hid (AnswersS w g caps ss P)) :
    Calls Tryd.prog 48 #[.slice p ss.length cp, .func (.func g) #[] caps] w fun e w' => IdxPost (ss.any P) e ∧ Below w.heap.size w w' := by
  go_enter Tryd.func48, Tryd.ntmps48
  go_wp2
  go_loopw [8] (fun sj wr => ∃ k : Nat, k ≤ ss.length ∧ sj = .int .i64 k ∧ Hid (∀ (q : Nat) (hq : q < ss.length), q < k → P ss[q] = false) ∧ Below w.heap.size w wr) (fun j _ => ss.length - (intOf j).toNat)
  case atStart => exact ⟨0, Nat.zero_le _, rfl, hid (by intro q _ h; omega), Below.refl _ _⟩
  case round =>
    obtain ⟨k, hk, rfl, hno, hB⟩ := hrel
    by_cases hlt : k < ss.length
    · obtain ⟨b, o, rfl, hc⟩ := (hS.out.below hB) (by omega)
      obtain ⟨c0, c1, c2, c3, c4⟩ := hc k hlt
      have hA' := hA.out ss[k] (List.getElem_mem hlt) wr hB
      obtain ⟨bv, hbv⟩ : ∃ bv, P ss[k] = bv := ⟨_, rfl⟩
      rw [hbv] at hA'
      have HBV := hid hbv
      clear hbv hc
      generalize hx : ss[k] = x at *
      have HX := hid hx
      clear hx
      cases bv
      · go_wp2_with fail
        refine hA'.mono ?_
        rintro e w1 ⟨rfl, hb1⟩
        go_wp2
        refine ⟨⟨k + 1, by omega, by go_num, hid ?_, hB.trans (hb1.mono hB.size)⟩, by simp [intOf]; omega⟩
        intro q hq hqk
        by_cases e : q = k
        · subst e; rw [HX.out]; exact HBV.out
        · exact hno.out q hq (by omega)
      · go_wp2_with fail
        refine hA'.mono ?_
        rintro e w1 ⟨rfl, hb1⟩
        go_wp2
        go_ret
        refine ⟨⟨k, rfl, ?_⟩, hB.trans (hb1.mono hB.size)⟩
        rw [any_at ss P k hlt (by rw [HX.out]; exact HBV.out)]
        simp
    · obtain rfl : k = ss.length := by omega
      go_wp2
      go_ret
      refine ⟨⟨-1, rfl, ?_⟩, hB⟩
      rw [any_none ss P (fun q hq => hno.out q hq hq)]
      rfl

set_option maxHeartbeats 400000 in
set_option maxRecDepth 100000 in
theorem contFuncT (g : Nat) (caps : Array Value) (ss : List SV) (P : SV → Bool) (p : Option Addr) (cp : Nat) (w : World) (eg : ∀ args w, (callFunc g args).run Tryd.prog w = .ok (.enter g args) w) (hl : ss.length ≤ 1048576) (hS : Hid (StmtsAt w p ss)) (hA : Hid (AnswersS w g caps ss P)) :
    Calls Tryd.prog 29 #[.slice p ss.length cp, .func (.func g) #[] caps] w fun e w' => e = .returned (.bool (ss.any P)) ∧ Below w.heap.size w w' := by
  go_enter Tryd.func29, Tryd.ntmps29
  go_wp2_with (go_at_call 48; refine (idxFuncT g caps ss P p cp w eg hl hS hA).mono ?_; rintro e w1 ⟨⟨r, rfl, hr⟩, hb1⟩)
  go_ret
  exact ⟨rfl, hb1⟩
end Go.Proofs.Qxb6613124aDoor
