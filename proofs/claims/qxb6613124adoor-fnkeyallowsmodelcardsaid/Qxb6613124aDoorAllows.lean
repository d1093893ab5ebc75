/-
  THE WALKS of IdentityPolicy.list (21) and KeyAllows (10).
-/
import Derived.Test.Qxb6613124aDoorCovers
import Derived.Deep.RegionHeld
import Derived.BigRegion
namespace Go.Proofs.Qxb6613124aDoor
open Go.RowKit

set_option maxHeartbeats 400000 in
set_option maxRecDepth 100000 in
theorem list_nil (w : World) : Calls Tryd.prog 21 #[.pointer none] w fun e w' => e = .returned (.slice none 0 0) ∧ w' = w := by
  go_enter Tryd.func21, Tryd.ntmps21
  go_wp2
  go_ret
  exact ⟨rfl, rfl⟩

set_option maxHeartbeats 400000 in
set_option maxRecDepth 100000 in
theorem list_some (B : Nat) (v : Value) (w : World) (c : w.cell? ⟨B, 0, none⟩ = some v) : Calls Tryd.prog 21 #[.pointer (some ⟨B, 0, none⟩)] w fun e w' => e = .returned v ∧ w' = w := by
  go_enter Tryd.func21, Tryd.ntmps21
  go_wp2
  go_ret
  exact ⟨rfl, rfl⟩

abbrev starB : ByteArray := ⟨#[42]⟩
/-- What KeyAllows answers. -/
noncomputable def allowsB (f : Int → Option (List UInt8)) (r : Rq) (ks gs : List SV) : Bool :=
  if ks.any (coverB f r true false [r.principal, r.account, starB]) || gs.any (coverB f r true false []) then false
  else if ks.any (coverB f r false false [r.principal, starB]) then true
  else ks.any (coverB f r false false [r.account]) && gs.any (coverB f r false true [])

theorem strs3 {W : World} {B : Nat} {a b c : ByteArray} (h : W.rowIs B 9 3 (fun j => (#[.string a, .string b, .string c] : Array Value).getD j undef)) : StrsAt W (some ⟨B, 0, none⟩) [a, b, c] := fun _ => by
  refine ⟨B, 0, rfl, fun j hj => ?_⟩
  rw [Nat.zero_add]
  match j, hj with
  | 0, _ => exact h.cell (i := 0) (by omega)
  | 1, _ => exact h.cell (i := 1) (by omega)
  | 2, _ => exact h.cell (i := 2) (by omega)
theorem strs2 {W : World} {B : Nat} {a b : ByteArray} (h : W.rowIs B 9 2 (fun j => (#[.string a, .string b] : Array Value).getD j undef)) : StrsAt W (some ⟨B, 0, none⟩) [a, b] := fun _ => by
  refine ⟨B, 0, rfl, fun j hj => ?_⟩
  rw [Nat.zero_add]
  match j, hj with
  | 0, _ => exact h.cell (i := 0) (by omega)
  | 1, _ => exact h.cell (i := 1) (by omega)
theorem strs1 {W : World} {B : Nat} {a : ByteArray} (h : W.rowIs B 9 1 (fun j => (#[.string a] : Array Value).getD j undef)) : StrsAt W (some ⟨B, 0, none⟩) [a] := fun _ => by
  refine ⟨B, 0, rfl, fun j hj => ?_⟩
  rw [Nat.zero_add]
  match j, hj with
  | 0, _ => exact h.cell (i := 0) (by omega)

theorem cov_at (ss : List SV) (p : Option Addr) (cp : Nat) (r : Rq) (f : Int → Option (List UInt8)) (deny ex : Bool) (who : List ByteArray) (pw : Option Addr) (cw n fn : Nat) (w W : World) (hE : Hid (EnvOk w r f)) (hl : ss.length ≤ 1048576) (hS : Hid (StmtsAt w p ss)) (hO : Hid (∀ s ∈ ss, StmtOk w f s)) (hb : Below w.heap.size w W) (hws : StrsAt W pw who) (hn : who.length = n) (hwl : n ≤ 1048576) (hfn : (if ex then 24 else 23) = fn) :
    Calls Tryd.prog 22 #[.slice p ss.length cp, .agg #[.string r.principal, .string r.account, .string r.action, .string r.resource, .int .i64 r.len, .string r.digits, r.mv], .bool deny, .func (.func fn) #[] #[], .slice pw n cw] W fun e w' => e = .returned (.bool (ss.any (coverB f r deny ex who))) ∧ Below W.heap.size W w' := by
  subst hn hfn
  exact covers_any ss p cp r f deny ex who pw cw W (hE.out.below hb) hl (hS.out.below hb) (fun s hs => (hO.out s hs).below hb) hws hwl

theorem keep8 {W W' : World} {K B n ck : Nat} {pk : Option Addr} {r : Rq} (h : W.cell? ⟨K, 0, none⟩ = some (.slice pk n ck) ∧ W.cell? ⟨B, 0, none⟩ = some (.string r.principal) ∧ W.cell? ⟨B, 1, none⟩ = some (.string r.account) ∧ W.cell? ⟨B, 2, none⟩ = some (.string r.action) ∧ W.cell? ⟨B, 3, none⟩ = some (.string r.resource) ∧ W.cell? ⟨B, 4, none⟩ = some (.int .i64 r.len) ∧ W.cell? ⟨B, 5, none⟩ = some (.string r.digits) ∧ W.cell? ⟨B, 6, none⟩ = some r.mv) (hb : Below W.heap.size W W') :
    W'.cell? ⟨K, 0, none⟩ = some (.slice pk n ck) ∧ W'.cell? ⟨B, 0, none⟩ = some (.string r.principal) ∧ W'.cell? ⟨B, 1, none⟩ = some (.string r.account) ∧ W'.cell? ⟨B, 2, none⟩ = some (.string r.action) ∧ W'.cell? ⟨B, 3, none⟩ = some (.string r.resource) ∧ W'.cell? ⟨B, 4, none⟩ = some (.int .i64 r.len) ∧ W'.cell? ⟨B, 5, none⟩ = some (.string r.digits) ∧ W'.cell? ⟨B, 6, none⟩ = some r.mv := by
  have k : ∀ {a : Addr} {v : Value}, W.cell? a = some v → W'.cell? a = some v := fun {a v} hx => (hb.cell (block_lt_of_cell hx)).trans hx
  obtain ⟨h0, h1, h2, h3, h4, h5, h6, h7⟩ := h
  exact ⟨k h0, k h1, k h2, k h3, k h4, k h5, k h6, k h7⟩

theorem cov_keep (ss : List SV) (p : Option Addr) (cp : Nat) (r : Rq) (f : Int → Option (List UInt8)) (deny ex : Bool) (who : List ByteArray) (pw : Option Addr) (cw n fn : Nat) (w W1 W : World) (hE : Hid (EnvOk w r f)) (hl : ss.length ≤ 1048576) (hS : Hid (StmtsAt w p ss)) (hO : Hid (∀ s ∈ ss, StmtOk w f s)) (hB : Hid (Below w.heap.size w W1)) (hb : Below W1.heap.size W1 W) (hws : StrsAt W pw who) (hn : who.length = n) (hwl : n ≤ 1048576) (hfn : (if ex then 24 else 23) = fn) {b : Bool} (hv : ss.any (coverB f r deny ex who) = b)
    {K B nk ck : Nat} {pk : Option Addr} (h8 : Hid (W1.cell? ⟨K, 0, none⟩ = some (.slice pk nk ck) ∧ W1.cell? ⟨B, 0, none⟩ = some (.string r.principal) ∧ W1.cell? ⟨B, 1, none⟩ = some (.string r.account) ∧ W1.cell? ⟨B, 2, none⟩ = some (.string r.action) ∧ W1.cell? ⟨B, 3, none⟩ = some (.string r.resource) ∧ W1.cell? ⟨B, 4, none⟩ = some (.int .i64 r.len) ∧ W1.cell? ⟨B, 5, none⟩ = some (.string r.digits) ∧ W1.cell? ⟨B, 6, none⟩ = some r.mv)) :
    Calls Tryd.prog 22 #[.slice p ss.length cp, .agg #[.string r.principal, .string r.account, .string r.action, .string r.resource, .int .i64 r.len, .string r.digits, r.mv], .bool deny, .func (.func fn) #[] #[], .slice pw n cw] W fun e W => e = .returned (.bool b) ∧ Below W1.heap.size W1 W ∧ W.cell? ⟨K, 0, none⟩ = some (.slice pk nk ck) ∧ W.cell? ⟨B, 0, none⟩ = some (.string r.principal) ∧ W.cell? ⟨B, 1, none⟩ = some (.string r.account) ∧ W.cell? ⟨B, 2, none⟩ = some (.string r.action) ∧ W.cell? ⟨B, 3, none⟩ = some (.string r.resource) ∧ W.cell? ⟨B, 4, none⟩ = some (.int .i64 r.len) ∧ W.cell? ⟨B, 5, none⟩ = some (.string r.digits) ∧ W.cell? ⟨B, 6, none⟩ = some r.mv := by
  subst hv
  refine (cov_at ss p cp r f deny ex who pw cw n fn w W hE hl hS hO (hB.out.trans (hb.mono hB.out.size)) hws hn hwl hfn).mono ?_
  rintro e w2 ⟨rfl, hb2⟩
  have hBB := hb.trans (hb2.mono hb.size)
  exact ⟨rfl, hBB, keep8 h8.out hBB⟩

theorem allows_1 {f : Int → Option (List UInt8)} {r : Rq} {ks gs : List SV} (h : ks.any (coverB f r true false [r.principal, r.account, starB]) = true) : allowsB f r ks gs = false := by unfold allowsB; rw [h]; simp
theorem allows_2 {f : Int → Option (List UInt8)} {r : Rq} {ks gs : List SV} (h : gs.any (coverB f r true false []) = true) : allowsB f r ks gs = false := by unfold allowsB; rw [h]; simp
theorem allows_3 {f : Int → Option (List UInt8)} {r : Rq} {ks gs : List SV} (h1 : ks.any (coverB f r true false [r.principal, r.account, starB]) = false) (h2 : gs.any (coverB f r true false []) = false) (h3 : ks.any (coverB f r false false [r.principal, starB]) = true) : allowsB f r ks gs = true := by unfold allowsB; rw [h1, h2, h3]; simp
theorem allows_4 {f : Int → Option (List UInt8)} {r : Rq} {ks gs : List SV} {b4 b5 : Bool} (h1 : ks.any (coverB f r true false [r.principal, r.account, starB]) = false) (h2 : gs.any (coverB f r true false []) = false) (h3 : ks.any (coverB f r false false [r.principal, starB]) = false) (h4 : ks.any (coverB f r false false [r.account]) = b4) (h5 : gs.any (coverB f r false true []) = b5) : allowsB f r ks gs = (b4 && b5) := by unfold allowsB; rw [h1, h2, h3, h4, h5]; simp

set_option maxHeartbeats 1600000 in
set_option maxRecDepth 100000 in
theorem allows_any (ks gs : List SV) (pk pg : Option Addr) (ck cg : Nat) (K : Nat) (ip : Value) (r : Rq) (f : Int → Option (List UInt8)) (w : World) (hE : Hid (EnvOk w r f)) (hkl : ks.length ≤ 1048576) (hgl : gs.length ≤ 1048576)
    (cK : w.cell? ⟨K, 0, none⟩ = some (.slice pk ks.length ck)) (hI : Hid (∀ W, Below w.heap.size w W → Calls Tryd.prog 21 #[ip] W fun e w' => e = .returned (.slice pg gs.length cg) ∧ w' = W)) (hKS : Hid (StmtsAt w pk ks)) (hGS : Hid (StmtsAt w pg gs)) (hKO : Hid (∀ s ∈ ks, StmtOk w f s)) (hGO : Hid (∀ s ∈ gs, StmtOk w f s)) :
    Calls Tryd.prog 10 #[.pointer (some ⟨K, 0, none⟩), ip, .agg #[.string r.principal, .string r.account, .string r.action, .string r.resource, .int .i64 r.len, .string r.digits, r.mv]] w fun e w' => e = .returned (.bool (allowsB f r ks gs)) ∧ Below w.heap.size w w' := by
  have hR := hid (RqAt.new w r)
  have hB := hid ((Below.refl w.heap.size w).alloc (Nat.le_refl _) (.cells #[.string r.principal, .string r.account, .string r.action, .string r.resource, .int .i64 r.len, .string r.digits, r.mv] 30))
  have cK1 := up cK (.cells #[.string r.principal, .string r.account, .string r.action, .string r.resource, .int .i64 r.len, .string r.digits, r.mv] 30)
  go_enter Tryd.func10, Tryd.ntmps10
  go_wp2_with (go_at_call 21; refine (hI.out _ hB.out).mono ?_; rintro e w1 ⟨rfl, rfl⟩)
  generalize w.alloc (.cells #[.string r.principal, .string r.account, .string r.action, .string r.resource, .int .i64 r.len, .string r.digits, r.mv] 30) = W1 at hR hB cK1 ⊢
  obtain ⟨r0, r1, r2, r3, r4, r5, r6⟩ := hR.out
  have hS1 := hid (show W1.cell? ⟨K, 0, none⟩ = some (.slice pk ks.length ck) ∧ W1.cell? ⟨w.heap.size, 0, none⟩ = some (.string r.principal) ∧ W1.cell? ⟨w.heap.size, 1, none⟩ = some (.string r.account) ∧ W1.cell? ⟨w.heap.size, 2, none⟩ = some (.string r.action) ∧ W1.cell? ⟨w.heap.size, 3, none⟩ = some (.string r.resource) ∧ W1.cell? ⟨w.heap.size, 4, none⟩ = some (.int .i64 r.len) ∧ W1.cell? ⟨w.heap.size, 5, none⟩ = some (.string r.digits) ∧ W1.cell? ⟨w.heap.size, 6, none⟩ = some r.mv from ⟨cK1, r0, r1, r2, r3, r4, r5, r6⟩)
  clear r0 r1 r2 r3 r4 r5 r6 cK1
  obtain ⟨b1, hb1⟩ : ∃ b1, ks.any (coverB f r true false [r.principal, r.account, starB]) = b1 := ⟨_, rfl⟩
  obtain ⟨b2, hb2⟩ : ∃ b2, gs.any (coverB f r true false []) = b2 := ⟨_, rfl⟩
  obtain ⟨b3, hb3⟩ : ∃ b3, ks.any (coverB f r false false [r.principal, starB]) = b3 := ⟨_, rfl⟩
  obtain ⟨b4, hb4⟩ : ∃ b4, ks.any (coverB f r false false [r.account]) = b4 := ⟨_, rfl⟩
  obtain ⟨b5, hb5⟩ : ∃ b5, gs.any (coverB f r false true []) = b5 := ⟨_, rfl⟩
  have HB1 := hid hb1
  have HB2 := hid hb2
  have HB3 := hid hb3
  have HB4 := hid hb4
  have HB5 := hid hb5
  clear hb1 hb2 hb3 hb4 hb5
  have C1 := hid (fun (hb : Below W1.heap.size W1 (W1.alloc (.cells #[.string r.principal, .string r.account, .string ⟨#[42]⟩] 9)).drew) => cov_keep ks pk ck r f true false [r.principal, r.account, starB] (some ⟨W1.heap.size, 0, none⟩) 3 3 23 w W1 _ hE hkl hKS hKO hB hb ((strs3 (rowL W1 #[.string r.principal, .string r.account, .string starB] 9)).below (Below.refl _ _).drew) rfl (by omega) rfl HB1.out hS1)
  obtain ⟨s0, s1, s2, s3, s4, s5, s6, s7⟩ := hS1.out
  go_region_held (fun W => W.cell? ⟨K, 0, none⟩ = some (.slice pk ks.length ck) ∧ W.cell? ⟨w.heap.size, 0, none⟩ = some (.string r.principal) ∧ W.cell? ⟨w.heap.size, 1, none⟩ = some (.string r.account) ∧ W.cell? ⟨w.heap.size, 2, none⟩ = some (.string r.action) ∧ W.cell? ⟨w.heap.size, 3, none⟩ = some (.string r.resource) ∧ W.cell? ⟨w.heap.size, 4, none⟩ = some (.int .i64 r.len) ∧ W.cell? ⟨w.heap.size, 5, none⟩ = some (.string r.digits) ∧ W.cell? ⟨w.heap.size, 6, none⟩ = some r.mv) (go_keep) ((go_at_call 22; refine (C1.out ((Below.refl _ _).alloc (Nat.le_refl _) _).drew).mono ?_; rintro e w2 ⟨rfl, hBB, t0, t1, t2, t3, t4, t5, t6, t7⟩))
  clear C1 s0 s1 s2 s3 s4 s5 s6 s7
  cases b1 with
  | true =>
    go_wp2
    go_ret
    exact ⟨ret_bool (allows_1 HB1.out).symm, hB.out.trans (hBB.mono hB.out.size)⟩
  | false =>
    go_wp2_with (go_at_call 22; refine (cov_keep gs pg cg r f true false [] none 0 0 23 w W1 _ hE hgl hGS hGO hB hBB (fun h => absurd h (by simp)) rfl (by omega) rfl HB2.out hS1).mono ?_; clear hBB t0 t1 t2 t3 t4 t5 t6 t7; rintro e w3 ⟨rfl, hBB, t0, t1, t2, t3, t4, t5, t6, t7⟩; cases b2)
    · have hBw := hid hBB
      have C3 := hid (fun (hb : Below W1.heap.size W1 (w3.alloc (.cells #[.string r.principal, .string ⟨#[42]⟩] 9)).drew) => cov_keep ks pk ck r f false false [r.principal, starB] (some ⟨w3.heap.size, 0, none⟩) 2 2 23 w W1 _ hE hkl hKS hKO hB hb ((strs2 (rowL w3 #[.string r.principal, .string starB] 9)).below (Below.refl _ _).drew) rfl (by omega) rfl HB3.out hS1)
      clear hBB
      go_region_held (fun W => W.cell? ⟨K, 0, none⟩ = some (.slice pk ks.length ck) ∧ W.cell? ⟨w.heap.size, 0, none⟩ = some (.string r.principal) ∧ W.cell? ⟨w.heap.size, 1, none⟩ = some (.string r.account) ∧ W.cell? ⟨w.heap.size, 2, none⟩ = some (.string r.action) ∧ W.cell? ⟨w.heap.size, 3, none⟩ = some (.string r.resource) ∧ W.cell? ⟨w.heap.size, 4, none⟩ = some (.int .i64 r.len) ∧ W.cell? ⟨w.heap.size, 5, none⟩ = some (.string r.digits) ∧ W.cell? ⟨w.heap.size, 6, none⟩ = some r.mv) (go_keep) ((go_at_call 22; refine (C3.out (hBw.out.alloc hBw.out.size _).drew).mono ?_; clear t0 t1 t2 t3 t4 t5 t6 t7; rintro e w4 ⟨rfl, hBB, t0, t1, t2, t3, t4, t5, t6, t7⟩))
      clear C3
      cases b3 with
      | true =>
        go_wp2
        go_ret
        exact ⟨ret_bool (allows_3 HB1.out HB2.out HB3.out).symm, hB.out.trans (hBB.mono hB.out.size)⟩
      | false =>
        have hBw4 := hid hBB
        have C4 := hid (fun (hb : Below W1.heap.size W1 (w4.alloc (.cells #[.string r.account] 9)).drew) => cov_keep ks pk ck r f false false [r.account] (some ⟨w4.heap.size, 0, none⟩) 1 1 23 w W1 _ hE hkl hKS hKO hB hb ((strs1 (rowL w4 #[.string r.account] 9)).below (Below.refl _ _).drew) rfl (by omega) rfl HB4.out hS1)
        clear hBB
        go_wp2
        cases b4 with
        | true =>
          go_region_held (fun W => W.cell? ⟨K, 0, none⟩ = some (.slice pk ks.length ck) ∧ W.cell? ⟨w.heap.size, 0, none⟩ = some (.string r.principal) ∧ W.cell? ⟨w.heap.size, 1, none⟩ = some (.string r.account) ∧ W.cell? ⟨w.heap.size, 2, none⟩ = some (.string r.action) ∧ W.cell? ⟨w.heap.size, 3, none⟩ = some (.string r.resource) ∧ W.cell? ⟨w.heap.size, 4, none⟩ = some (.int .i64 r.len) ∧ W.cell? ⟨w.heap.size, 5, none⟩ = some (.string r.digits) ∧ W.cell? ⟨w.heap.size, 6, none⟩ = some r.mv) (go_keep) ((first | (go_at_call 22; refine (C4.out (hBw4.out.alloc hBw4.out.size _).drew).mono ?_; clear t0 t1 t2 t3 t4 t5 t6 t7 C4; rintro e w5 ⟨rfl, hBB, t0, t1, t2, t3, t4, t5, t6, t7⟩) | (go_at_call 22; refine (cov_keep gs pg cg r f false true [] none 0 0 24 w W1 _ hE hgl hGS hGO hB hBB (fun h => absurd h (by simp)) rfl (by omega) rfl HB5.out hS1).mono ?_; clear t0 t1 t2 t3 t4 t5 t6 t7; rintro e w6 ⟨rfl, hBB6, t0, t1, t2, t3, t4, t5, t6, t7⟩)))
          go_wp2
          go_ret
          exact ⟨ret_bool (by rw [allows_4 HB1.out HB2.out HB3.out HB4.out HB5.out]; simp), hB.out.trans (hBB6.mono hB.out.size)⟩
        | false =>
          obtain ⟨q0, q1, q2, q3, q4, q5, q6, q7⟩ := keep8 ⟨t0, t1, t2, t3, t4, t5, t6, t7⟩ ((Below.refl _ w4).alloc (Nat.le_refl _) (.cells #[.string r.account] 9))
          first | (go_region_with (go_at_call 22; refine (C4.out (hBw4.out.alloc hBw4.out.size _).drew).mono ?_; clear C4 q0 q1 q2 q3 q4 q5 q6 q7 t0 t1 t2 t3 t4 t5 t6 t7; rintro e w5 ⟨rfl, hBB, t0, t1, t2, t3, t4, t5, t6, t7⟩)) | fail
          all_goals
            go_wp2
            go_ret
            exact ⟨ret_bool (by rw [allows_4 HB1.out HB2.out HB3.out HB4.out HB5.out]; simp), hB.out.trans (hBB.mono hB.out.size)⟩
    · go_ret
      exact ⟨ret_bool (allows_2 HB2.out).symm, hB.out.trans (hBB.mono hB.out.size)⟩
end Go.Proofs.Qxb6613124aDoor
