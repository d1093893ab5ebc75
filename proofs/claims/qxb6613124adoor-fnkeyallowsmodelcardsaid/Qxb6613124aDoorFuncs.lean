/-
  THE WALKS of slices.IndexFunc and slices.ContainsFunc (strings: 49, 31), with whatever closure; slices.Index, slices.Contains (50, 33).
-/
import Derived.Test.Qxb6613124aDoorTakes
import Derived.BigRegion
import Derived.Below
import Derived.Shelf.Abstract
namespace Go.Proofs.Qxb6613124aDoor
open Go.RowKit

/-- The slice's address p holds the strings ss. -/
def StrsAt (W : World) (p : Option Addr) (ss : List ByteArray) : Prop := 0 < ss.length → ∃ b o, p = some ⟨b, o, none⟩ ∧ ∀ (j : Nat) (h : j < ss.length), W.cell? ⟨b, o + j, none⟩ = some (.string ss[j])
theorem StrsAt.below {W W' : World} {p : Option Addr} {ss : List ByteArray} (h : StrsAt W p ss) (hb : Below W.heap.size W W') : StrsAt W' p ss := fun h0 => by
  obtain ⟨b, o, e, hc⟩ := h h0
  exact ⟨b, o, e, fun j hj => (hb.cell (p := ⟨b, o + j, none⟩) (block_lt_of_cell (hc j hj))).trans (hc j hj)⟩

/-- The closure g with what it has caught answers P at every element. -/
def Answers (w : World) (g : Nat) (caps : Array Value) (ss : List ByteArray) (P : ByteArray → Bool) : Prop := ∀ s ∈ ss, ∀ W, Below w.heap.size w W → Calls Tryd.prog g (#[.string s] ++ caps) W fun e w' => e = .returned (.bool (P s)) ∧ Below W.heap.size W w'

/-- The index that is handed back: not below 0 just where b. -/
def IdxPost (b : Bool) (e : Ending) : Prop := ∃ r : Int, e = .returned (.int .i64 r) ∧ decide (0 ≤ r) = b

theorem any_at {α : Type} (l : List α) (P : α → Bool) (k : Nat) (h : k < l.length) (hp : P l[k] = true) : l.any P = true := List.any_eq_true.2 ⟨_, List.getElem_mem h, hp⟩
theorem any_none {α : Type} (l : List α) (P : α → Bool) (h : ∀ (k : Nat) (hk : k < l.length), P l[k] = false) : l.any P = false := by
  rw [List.any_eq_false]
  intro x hx
  obtain ⟨k, hk, rfl⟩ := List.getElem_of_mem hx
  simp [h k hk]

set_option maxHeartbeats 400000 in
set_option maxRecDepth 100000 in
theorem idxFuncS (g : Nat) (caps : Array Value) (ss : List ByteArray) (P : ByteArray → Bool) (p : Option Addr) (cp : Nat) (w : World) (eg : ∀ args w, (callFunc g args).run Tryd.prog w = .ok (.enter g args) w) (hl : ss.length ≤ 1048576) (hS : Hid (StrsAt w p ss)) (hA : Hid (Answers w g caps ss P)) :
    Calls Tryd.prog 49 #[.slice p ss.length cp, .func (.func g) #[] caps] w fun e w' => IdxPost (ss.any P) e ∧ Below w.heap.size w w' := by
  go_enter Tryd.func49, Tryd.ntmps49
  go_wp2
  go_loopw [8] (fun sj wr => ∃ k : Nat, k ≤ ss.length ∧ sj = .int .i64 k ∧ Hid (∀ (q : Nat) (hq : q < ss.length), q < k → P ss[q] = false) ∧ Below w.heap.size w wr) (fun j _ => ss.length - (intOf j).toNat)
  case atStart => exact ⟨0, Nat.zero_le _, rfl, hid (by intro q _ h; omega), Below.refl _ _⟩
  case round =>
    obtain ⟨k, hk, rfl, hno, hB⟩ := hrel
    by_cases hlt : k < ss.length
    · obtain ⟨b, o, rfl, hc⟩ := (hS.out.below hB) (by omega)
      have hck := hc k hlt
      have hA' := hA.out ss[k] (List.getElem_mem hlt) wr hB
      obtain ⟨bv, hbv⟩ : ∃ bv, P ss[k] = bv := ⟨_, rfl⟩
      rw [hbv] at hA'
      have HBV := hid hbv
      clear hbv hc
      generalize hx : ss[k] = x at *
      have HX := hid hx
      clear hx
      cases bv
      · go_wp2_with fail
        refine hA'.mono ?_
        rintro e w1 ⟨rfl, hb1⟩
        go_wp2
        refine ⟨⟨k + 1, by omega, by go_num, hid ?_, hB.trans (hb1.mono hB.size)⟩, by simp [intOf]; omega⟩
        intro q hq hqk
        by_cases e : q = k
        · subst e; rw [HX.out]; exact HBV.out
        · exact hno.out q hq (by omega)
      · go_wp2_with fail
        refine hA'.mono ?_
        rintro e w1 ⟨rfl, hb1⟩
        go_wp2
        go_ret
        refine ⟨⟨k, rfl, ?_⟩, hB.trans (hb1.mono hB.size)⟩
        rw [any_at ss P k hlt (by rw [HX.out]; exact HBV.out)]
        simp
    · obtain rfl : k = ss.length := by omega
      go_wp2
      go_ret
      refine ⟨⟨-1, rfl, ?_⟩, hB⟩
      rw [any_none ss P (fun q hq => hno.out q hq hq)]
      rfl

set_option maxHeartbeats 400000 in
set_option maxRecDepth 100000 in
theorem contFuncS (g : Nat) (caps : Array Value) (ss : List ByteArray) (P : ByteArray → Bool) (p : Option Addr) (cp : Nat) (w : World) (eg : ∀ args w, (callFunc g args).run Tryd.prog w = .ok (.enter g args) w) (hl : ss.length ≤ 1048576) (hS : Hid (StrsAt w p ss)) (hA : Hid (Answers w g caps ss P)) :
    Calls Tryd.prog 31 #[.slice p ss.length cp, .func (.func g) #[] caps] w fun e w' => e = .returned (.bool (ss.any P)) ∧ Below w.heap.size w w' := by
  go_enter Tryd.func31, Tryd.ntmps31
  go_wp2_with (go_at_call 49; refine (idxFuncS g caps ss P p cp w eg hl hS hA).mono ?_; rintro e w1 ⟨⟨r, rfl, hr⟩, hb1⟩)
  go_ret
  exact ⟨rfl, hb1⟩

set_option maxHeartbeats 400000 in
set_option maxRecDepth 100000 in
theorem idxS (x : ByteArray) (ss : List ByteArray) (p : Option Addr) (cp : Nat) (w : World) (hl : ss.length ≤ 1048576) (hS : Hid (StrsAt w p ss)) :
    Calls Tryd.prog 50 #[.slice p ss.length cp, .string x] w fun e w' => IdxPost (ss.any fun y => x.toList == y.toList) e ∧ w' = w := by
  go_enter Tryd.func50, Tryd.ntmps50
  go_wp2
  go_loopw [8] (fun sj wr => ∃ k : Nat, k ≤ ss.length ∧ sj = .int .i64 k ∧ Hid (∀ (q : Nat) (hq : q < ss.length), q < k → (x.toList == ss[q].toList) = false) ∧ wr = w) (fun j _ => ss.length - (intOf j).toNat)
  case atStart => exact ⟨0, Nat.zero_le _, rfl, hid (by intro q _ h; omega), rfl⟩
  case round =>
    obtain ⟨k, hk, rfl, hno, rfl⟩ := hrel
    by_cases hlt : k < ss.length
    · obtain ⟨b, o, rfl, hc⟩ := hS.out (by omega)
      have hck := hc k hlt
      obtain ⟨bv, hbv⟩ : ∃ bv, (x.toList == ss[k].toList) = bv := ⟨_, rfl⟩
      have HBV := hid hbv
      clear hc
      generalize hx : ss[k] = y at *
      have HX := hid hx
      clear hx
      cases bv
      · go_wp2
        refine ⟨⟨k + 1, by omega, by go_num, hid ?_, trivial⟩, by simp [intOf]; omega⟩
        intro q hq hqk
        by_cases e : q = k
        · subst e; rw [HX.out]; exact HBV.out
        · exact hno.out q hq (by omega)
      · go_wp2
        go_ret
        refine ⟨⟨k, rfl, ?_⟩, rfl⟩
        rw [any_at ss (fun y => x.toList == y.toList) k hlt (by rw [HX.out]; exact HBV.out)]
        simp
    · obtain rfl : k = ss.length := by omega
      go_wp2
      go_ret
      refine ⟨⟨-1, rfl, ?_⟩, rfl⟩
      rw [any_none ss (fun y => x.toList == y.toList) (fun q hq => hno.out q hq hq)]
      rfl

set_option maxHeartbeats 400000 in
set_option maxRecDepth 100000 in
theorem contS (x : ByteArray) (ss : List ByteArray) (p : Option Addr) (cp : Nat) (w : World) (hl : ss.length ≤ 1048576) (hS : Hid (StrsAt w p ss)) :
    Calls Tryd.prog 33 #[.slice p ss.length cp, .string x] w fun e w' => e = .returned (.bool (ss.any fun y => x.toList == y.toList)) ∧ w' = w := by
  go_enter Tryd.func33, Tryd.ntmps33
  go_wp2_with (go_at_call 50; refine (idxS x ss p cp w hl hS).mono ?_; rintro e w1 ⟨⟨r, rfl, hr⟩, rfl⟩)
  go_ret
  exact ⟨rfl, rfl⟩
end Go.Proofs.Qxb6613124aDoor
