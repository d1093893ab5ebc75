/-
  THE WALKS of hex.EncodeToString (63), conditionOperator.matches (55), conditionKey.value (53), holds$1 (54), condition.holds (39).
-/
import Derived.Test.Qxb6613124aDoorHexs
import Derived.Test.Qxb6613124aDoorFuncs
namespace Go.Proofs.Qxb6613124aDoor
open Go.RowKit

theorem hexed_at (d : Nat) (h : d < 16) : hexC (Lib.Hx.digit d).toNat := by
  have k : ∀ d : Fin 16, (48 ≤ (Lib.Hx.digit d.1).toNat ∧ (Lib.Hx.digit d.1).toNat ≤ 57) ∨ (97 ≤ (Lib.Hx.digit d.1).toNat ∧ (Lib.Hx.digit d.1).toNat ≤ 102) := by decide
  exact k ⟨d, h⟩
theorem hexS_hexed (l : List UInt8) : Hexed (hexS l) := by
  intro j h
  have hz : (hexS l).size = 2 * l.length := by show (Lib.Hx.encode l).toArray.size = _; simp [Lib.Hx.encode_length]
  have hj : j / 2 < l.length := by omega
  obtain ⟨e1, e2⟩ := Lib.Hx.encode_at l (j / 2) l[j / 2] (List.getElem?_eq_getElem hj)
  have hx := (l[j / 2]).toNat_lt
  have hjl : j < (Lib.Hx.encode l).length := by rw [Lib.Hx.encode_length]; omega
  have key : hexC ((Lib.Hx.encode l)[j]'hjl).toNat := by
    rcases Nat.mod_two_eq_zero_or_one j with hm | hm
    · rw [show 2 * (j / 2) = j by omega, List.getElem?_eq_getElem hjl] at e1
      rw [Option.some.inj e1]
      exact hexed_at _ (by omega)
    · rw [show 2 * (j / 2) + 1 = j by omega, List.getElem?_eq_getElem hjl] at e2
      rw [Option.some.inj e2]
      exact hexed_at _ (by omega)
  exact key
theorem hexS_size (l : List UInt8) : (hexS l).size = 2 * l.length := by show (Lib.Hx.encode l).toArray.size = _; simp [Lib.Hx.encode_length]

set_option maxHeartbeats 400000 in
set_option maxRecDepth 100000 in
theorem enc_none (p : Option Addr) (cp : Nat) (w : World) : Calls Tryd.prog 63 #[.slice p 0 cp] w fun e w' => e = .returned (.string ⟨#[]⟩) ∧ Below w.heap.size w w' := by
  have hmk := fun w => make_bytes 0 (by omega) w
  have g : ∀ (w : World) (b : Nat), (convert 78 9 (.slice (some ⟨b, 0, none⟩) 0 0)).run Tryd.prog w = .ok (.string (strOfNums [])) w := fun w b =>
    run_convert_bytes_arg (P := Tryd.prog) w 78 5 Tryd.underlying78 Tryd.underlying5 b 0 0 0 [] rfl (fun i hi => absurd hi (Nat.not_lt_zero _)) 9 Tryd.underlying9
  simp only [Int.natCast_zero] at hmk
  go_enter Tryd.func63, Tryd.ntmps63
  go_wp2
  refine wp_loop_rounds 1 ?_
  rw [rounds_succ]
  go_wp2
  go_ret
  exact ⟨rfl, (Below.refl _ _).alloc (Nat.le_refl _) _⟩

theorem enc_any (l : List UInt8) (p : Option Addr) (cp : Nat) (w : World) (hl : l.length ≤ 1048576) (hb : BytesAt w p l) : Calls Tryd.prog 63 #[.slice p l.length cp] w fun e w' => e = .returned (.string (hexS l)) ∧ Below w.heap.size w w' := by
  cases l with
  | nil => exact enc_none p cp w
  | cons x xs =>
    obtain ⟨b, o, rfl, hc⟩ := hb (by simp)
    exact Tryd.hex_EncodeToString_bytes b o cp (x :: xs) w hc (block_lt_of_cell (hc 0 (by simp))) (by omega)

theorem rowL (w : World) (c : Array Value) (ty : TypeId) : (w.alloc (.cells c ty)).rowIs w.heap.size ty c.size (fun j => c.getD j undef) := World.rowIs_alloc w c ty _ (fun i hi => by simp [Array.getD, hi])

/-! ### a condition -/
/-- A statement's value matches the request's. -/
def matchesB (ic : Bool) (v h : ByteArray) : Bool := if ic then foldHex v.data.toList h.data.toList else v.toList == h.toList
/-- A condition. -/
structure KC where
  neg : Bool
  ic : Bool
  pcr : Int
  vals : List ByteArray
/-- It holds where the map answers f. -/
def holdsB (f : Int → Option (List UInt8)) (c : KC) : Bool := (match f c.pcr with | none => false | some l => c.vals.any fun v => matchesB c.ic v (hexS l)) != c.neg

set_option maxHeartbeats 400000 in
set_option maxRecDepth 100000 in
theorem matches_any (neg ic : Bool) (v h : ByteArray) (w : World) (hv : v.size ≤ 1048576) (hh : h.size ≤ 4194304) (hx : Hid (Hexed h)) (hT : Hid (FoldTab w)) :
    Calls Tryd.prog 55 #[.agg #[.bool neg, .bool ic], .string v, .string h] w fun e w' => e = .returned (.bool (matchesB ic v h)) ∧ Below w.heap.size w w' := by
  have hT' := hid (hT.out.below ((Below.refl w.heap.size w).alloc (Nat.le_refl _) (.cells #[.bool neg, .bool ic] 59)))
  cases ic with
  | true =>
    go_enter Tryd.func55, Tryd.ntmps55
    go_wp2_with (go_at_call 64; refine (eqf_any v h _ hv hh hx hT').mono ?_; rintro e w1 ⟨rfl, hb1⟩)
    go_ret
    exact ⟨rfl, ((Below.refl _ _).alloc (Nat.le_refl _) _).trans (hb1.mono (by simp))⟩
  | false =>
    go_enter Tryd.func55, Tryd.ntmps55
    go_wp2
    go_ret
    exact ⟨rfl, (Below.refl _ _).alloc (Nat.le_refl _) _⟩

/-- The look-up at the key k in the map mv. -/
def LookAt (W : World) (mv : Value) (k : Int) : Option (List UInt8) → Prop
  | none => (Instr.lookup 26 mv (.int .i64 k) true).run Tryd.prog W = .ok (.tuple #[.slice none 0 0, .bool false]) W ∧ (Instr.lookup 26 mv (.int .i64 k) false).run Tryd.prog W = .ok (.slice none 0 0) W
  | some l => ∃ p c, (Instr.lookup 26 mv (.int .i64 k) true).run Tryd.prog W = .ok (.tuple #[.slice p l.length c, .bool true]) W ∧ (Instr.lookup 26 mv (.int .i64 k) false).run Tryd.prog W = .ok (.slice p l.length c) W ∧ BytesAt W p l
/-- The map mv answers f, in every world that has grown out of w. -/
def MapAll (w : World) (mv : Value) (f : Int → Option (List UInt8)) : Prop := ∀ W, Below w.heap.size w W → ∀ k, (Lit.int .i64 k).wf = true → LookAt W mv k (f k)

/-- A request. -/
structure Rq where
  principal : ByteArray
  account : ByteArray
  action : ByteArray
  resource : ByteArray
  len : Nat
  digits : ByteArray
  mv : Value
/-- Its seven cells. -/
def Rq.cells (r : Rq) : Array Value := #[.string r.principal, .string r.account, .string r.action, .string r.resource, .int .i64 r.len, .string r.digits, r.mv]

set_option maxHeartbeats 400000 in
set_option maxRecDepth 100000 in
theorem value_none (k : Int) (a b c d g : ByteArray) (L : Nat) (mv : Value) (w : World) (hL : Hid (∀ W, Below w.heap.size w W → LookAt W mv k none)) :
    Calls Tryd.prog 53 #[.agg #[.int .i64 k], .agg #[.string a, .string b, .string c, .string d, .int .i64 L, .string g, mv]] w fun e w' => e = .returned (.tuple #[.string ⟨#[]⟩, .bool false]) ∧ Below w.heap.size w w' := by
  have hB := (((Below.refl w.heap.size w).alloc (Nat.le_refl _) (.cells #[.int .i64 k] 61)).alloc (by simp) (.cells #[.string a, .string b, .string c, .string d, .int .i64 L, .string g, mv] 30))
  obtain ⟨h1, _⟩ := hL.out _ hB
  go_enter Tryd.func53, Tryd.ntmps53
  go_wp2
  go_ret2
  exact ⟨rfl, hB⟩

set_option maxHeartbeats 400000 in
set_option maxRecDepth 100000 in
theorem value_some (l : List UInt8) (k : Int) (a b c d g : ByteArray) (L : Nat) (mv : Value) (w : World) (hl : l.length ≤ 1048576) (hL : Hid (∀ W, Below w.heap.size w W → LookAt W mv k (some l))) :
    Calls Tryd.prog 53 #[.agg #[.int .i64 k], .agg #[.string a, .string b, .string c, .string d, .int .i64 L, .string g, mv]] w fun e w' => e = .returned (.tuple #[.string (hexS l), .bool true]) ∧ Below w.heap.size w w' := by
  have hB := (((Below.refl w.heap.size w).alloc (Nat.le_refl _) (.cells #[.int .i64 k] 61)).alloc (by simp) (.cells #[.string a, .string b, .string c, .string d, .int .i64 L, .string g, mv] 30))
  obtain ⟨p, cp, h1, _, hb⟩ := hL.out _ hB
  have HB := hid hb
  clear hb
  go_enter Tryd.func53, Tryd.ntmps53
  go_wp2_with (go_at_call 63; refine (enc_any l p cp _ hl HB.out).mono ?_; rintro e w1 ⟨rfl, hb1⟩)
  go_ret2
  exact ⟨rfl, hB.trans (hb1.mono (by simp; omega))⟩

set_option maxHeartbeats 400000 in
set_option maxRecDepth 100000 in
theorem hold1 (v h : ByteArray) (neg ic : Bool) (B V : Nat) (w : World) (hv : v.size ≤ 1048576) (hh : h.size ≤ 4194304) (hx : Hid (Hexed h)) (hT : Hid (FoldTab w)) (c0 : w.cell? ⟨B, 0, none⟩ = some (.bool neg)) (c1 : w.cell? ⟨B, 1, none⟩ = some (.bool ic)) (cV : w.cell? ⟨V, 0, none⟩ = some (.string h)) :
    Calls Tryd.prog 54 #[.string v, .pointer (some ⟨B, 0, none⟩), .pointer (some ⟨V, 0, none⟩)] w fun e w' => e = .returned (.bool (matchesB ic v h)) ∧ Below w.heap.size w w' := by
  go_enter Tryd.func54, Tryd.ntmps54
  go_wp2_with (go_at_call 55; refine (matches_any neg ic v h w hv hh hx hT).mono ?_; rintro e w1 ⟨rfl, hb1⟩)
  go_ret
  exact ⟨rfl, hb1⟩

/-- What a condition needs: its values' texts, the map's bytes at its key, the tables. -/
structure CondOk (w : World) (f : Int → Option (List UInt8)) (c : KC) : Prop where
  vals : c.vals.length ≤ 1048576
  size : ∀ v ∈ c.vals, v.size ≤ 1048576
  key : (Lit.int .i64 c.pcr).wf = true
  look : ∀ l, f c.pcr = some l → l.length ≤ 1048576

set_option maxHeartbeats 800000 in
set_option maxRecDepth 100000 in
theorem holds_any (c : KC) (p : Option Addr) (cp : Nat) (a b e d g : ByteArray) (L : Nat) (mv : Value) (f : Int → Option (List UInt8)) (w : World) (hS : Hid (StrsAt w p c.vals)) (hT : Hid (FoldTab w)) (hM : Hid (MapAll w mv f)) (hc : Hid (CondOk w f c)) :
    Calls Tryd.prog 39 #[.agg #[.bool c.neg, .bool c.ic, .int .i64 c.pcr, .slice p c.vals.length cp], .agg #[.string a, .string b, .string e, .string d, .int .i64 L, .string g, mv]] w fun x w' => x = .returned (.bool (holdsB f c)) ∧ Below w.heap.size w w' := by
  obtain ⟨neg, ic, pcr, vals⟩ := c
  have hB := (((Below.refl w.heap.size w).alloc (Nat.le_refl _) (.cells #[.bool neg, .bool ic, .int .i64 pcr, .slice p vals.length cp] 63)).alloc (by simp) (.cells #[.string a, .string b, .string e, .string d, .int .i64 L, .string g, mv] 30))
  have rB := hid ((rowL w #[.bool neg, .bool ic, .int .i64 pcr, .slice p vals.length cp] 63).alloc (.cells #[.string a, .string b, .string e, .string d, .int .i64 L, .string g, mv] 30))
  have hvl := hc.out.vals
  have hML := hid (fun W hb => hM.out W hb pcr hc.out.key)
  dsimp only at hvl
  cases hf : f pcr with
  | none =>
    have HE := hid (show holdsB f ⟨neg, ic, pcr, vals⟩ = (false != neg) by unfold holdsB; dsimp only; rw [hf])
    rw [hf] at hML
    clear hf
    go_enter Tryd.func39, Tryd.ntmps39
    go_wp2_with (go_at_call 53; refine (value_none _ _ _ _ _ _ _ _ _ (hid (fun W hb => hML.out W (hB.trans (hb.mono hB.size))))).mono ?_; rintro x w1 ⟨rfl, hb1⟩; have r1 := (rB.out.of_block (hb1.block _ rB.out.lt)).alloc (.cells #[.string ⟨#[]⟩] 9); have k0 := r1.cell (i := 0) (by simp))
    go_ret
    exact ⟨ret_bool (by rw [HE.out]; simp), (hB.trans (hb1.mono hB.size)).alloc (Nat.le_trans hB.size hb1.size) _⟩
  | some l =>
    have HE := hid (show holdsB f ⟨neg, ic, pcr, vals⟩ = ((vals.any fun v => matchesB ic v (hexS l)) != neg) by unfold holdsB; dsimp only; rw [hf])
    have hll := hc.out.look l hf
    rw [hf] at hML
    clear hf
    have hsz := hexS_size l
    have hhx := hid (hexS_hexed l)
    have eg : ∀ args w, (callFunc 54 args).run Tryd.prog w = .ok (.enter 54 args) w := enters_of Tryd.func54 (by kernel_rfl) rfl
    go_enter Tryd.func39, Tryd.ntmps39
    go_wp2_with (go_at_call 53; refine (value_some l _ _ _ _ _ _ _ _ _ hll (hid (fun W hb => hML.out W (hB.trans (hb.mono hB.size))))).mono ?_; rintro x w1 ⟨rfl, hb1⟩; have r1 := hid ((rB.out.of_block (hb1.block _ rB.out.lt)).alloc (.cells #[.string (hexS l)] 9)); have k0 := r1.out.cell (i := 0) (by simp); have k3 := r1.out.cell (i := 3) (by simp))
    have hB3 := hid ((hB.trans (hb1.mono hB.size)).alloc (Nat.le_trans hB.size hb1.size) (.cells #[.string (hexS l)] 9))
    have kV := hid ((rowL w1 #[.string (hexS l)] 9).cell (i := 0) (by simp))
    have hA : Hid (Answers (w1.alloc (.cells #[.string (hexS l)] 9)) 54 #[.pointer (some ⟨w.heap.size, 0, none⟩), .pointer (some ⟨w1.heap.size, 0, none⟩)] vals (fun v => matchesB ic v (hexS l))) := by
      refine hid (fun v hv W hb => ?_)
      have rW := r1.out.of_block (hb.block _ r1.out.lt)
      exact hold1 v (hexS l) neg ic w.heap.size w1.heap.size W (hc.out.size v hv) (by omega) hhx (hT.out.below (hB3.out.trans (hb.mono hB3.out.size))) (rW.cell (i := 0) (by simp)) (rW.cell (i := 1) (by simp)) ((hb.cell (p := ⟨w1.heap.size, 0, none⟩) (by simp)).trans kV.out)
    refine (contFuncS 54 _ vals _ p cp _ eg hvl (hid (hS.out.below hB3.out)) hA).mono ?_
    rintro x w4 ⟨rfl, hb4⟩
    have r4 := hid (r1.out.of_block (hb4.block _ r1.out.lt))
    clear k0 k3
    have k0 := r4.out.cell (i := 0) (by simp)
    generalize (vals.any fun v => matchesB ic v (hexS l)) = bb at *
    go_wp2
    go_ret
    exact ⟨ret_bool HE.out.symm, hB3.out.trans (hb4.mono hB3.out.size)⟩
end Go.Proofs.Qxb6613124aDoor
