/-
  THE WALKS of zzLatin1Lower (80), zzHasByte (27), zzTakes (69).
-/
import Derived.Test.Qxb6613124aDoorGlob
import Derived.Test.Qxb6613124aDoorProg
import Derived.WalkKit
import Derived.WalkSpells
import Derived.WalkLawsBesides
import Derived.Deep.LoopGhost
import Derived.WalkMore
import Derived.Lib.Strings
namespace Go.Proofs.Qxb6613124aDoor
open Go.RowKit

theorem ret_bool {a b : Bool} (h : a = b) : (Ending.returned (.bool a)) = .returned (.bool b) := by rw [h]
theorem hid {p : Prop} (h : p) : Hid p := h
theorem ret_int {a b : Int} (h : a = b) : (Ending.returned (.int .i64 a)) = .returned (.int .i64 b) := by rw [h]

/-- The lower case of a byte read as a Latin-1 letter. -/
def lat (n : Nat) : Nat := if (65 ≤ n ∧ n ≤ 90) ∨ (192 ≤ n ∧ n ≤ 222 ∧ n ≠ 215) then n + 32 else n
theorem lat_up {n : Nat} (h : (65 ≤ n ∧ n ≤ 90) ∨ (192 ≤ n ∧ n ≤ 222 ∧ n ≠ 215)) : lat n = n + 32 := if_pos h
theorem lat_same {n : Nat} (h : ¬ ((65 ≤ n ∧ n ≤ 90) ∨ (192 ≤ n ∧ n ≤ 222 ∧ n ≠ 215))) : lat n = n := if_neg h
theorem lat_lt {n : Nat} (h : n < 256) : lat n < 256 := by unfold lat; split <;> omega

set_option maxHeartbeats 400000 in
set_option maxRecDepth 100000 in
theorem latin (n : Nat) (w : World) (h : n < 256) : Calls Tryd.prog 80 #[.int .u8 n] w fun e w' => e = .returned (.int .u8 (lat n)) ∧ w' = w := by
  by_cases h1 : n < 65
  · go_enter Tryd.func80, Tryd.ntmps80
    go_wp2
    go_ret
    exact ⟨by rw [lat_same (by omega)]; rfl, rfl⟩
  by_cases h2 : n ≤ 90
  · go_enter Tryd.func80, Tryd.ntmps80
    go_wp2
    go_ret
    exact ⟨by rw [lat_up (by omega)]; first | rfl | simp, rfl⟩
  by_cases h3 : n < 192
  · go_enter Tryd.func80, Tryd.ntmps80
    go_wp2
    go_ret
    exact ⟨by rw [lat_same (by omega)]; rfl, rfl⟩
  by_cases h4 : n ≤ 222
  · by_cases h5 : n = 215
    · subst h5
      go_enter Tryd.func80, Tryd.ntmps80
      go_wp2
      go_ret
      exact ⟨rfl, rfl⟩
    · have h6 : ((n : Int) != 215) = true := by simp; omega
      have h7 : ¬ ((n : Int) ≤ 90) := by omega
      go_enter Tryd.func80, Tryd.ntmps80
      go_wp2
      go_ret
      exact ⟨by rw [lat_up (by omega)]; first | rfl | simp, rfl⟩
  · go_enter Tryd.func80, Tryd.ntmps80
    go_wp2
    go_ret
    exact ⟨by rw [lat_same (by omega)]; rfl, rfl⟩

theorem beq_nat (a b : Nat) : (((a : Int)) == ((b : Int))) = (a == b) := by
  rw [Bool.eq_iff_iff, beq_iff_eq, beq_iff_eq]; omega
theorem beq_u8 (a b : UInt8) : (a.toNat == b.toNat) = (a == b) := by
  rw [Bool.eq_iff_iff, beq_iff_eq, beq_iff_eq]; exact UInt8.toNat_inj
/-- s holds the byte c. -/
def hasB (s : List UInt8) (c : UInt8) : Bool := s.contains c
theorem hasB_yes (s : ByteArray) (c : UInt8) (k : Nat) (h : k < s.size) (e : s[k] = c) : hasB s.data.toList c = true := by
  unfold hasB
  rw [List.contains_iff_mem, ← e]
  exact List.getElem_mem (l := s.data.toList) (n := k) (by simpa using h)
theorem hasB_no (s : ByteArray) (c : UInt8) (h : ∀ (k : Nat) (hk : k < s.size), s[k] ≠ c) : hasB s.data.toList c = false := by
  unfold hasB
  rw [Bool.eq_false_iff]
  intro hc
  rw [List.contains_iff_mem] at hc
  obtain ⟨k, hk, e⟩ := List.getElem_of_mem hc
  exact h k (by simpa using hk) e

set_option maxHeartbeats 400000 in
set_option maxRecDepth 100000 in
theorem hasByte (s : ByteArray) (c : UInt8) (w : World) (hs : s.size ≤ 1048576) : Calls Tryd.prog 27 #[.string s, .int .u8 c.toNat] w fun e w' => e = .returned (.bool (hasB s.data.toList c)) ∧ w' = w := by
  go_enter Tryd.func27, Tryd.ntmps27
  go_wp2
  go_loopg [5] s.size (fun g s5 wx => w = wx ∧ ∃ i : Nat, i + g = s.size ∧ s5 = .int .i64 i ∧ Hid (∀ (k : Nat) (hk : k < s.size), k < i → s[k] ≠ c))
  case atStart => exact ⟨rfl, 0, by omega, rfl, (by intro k _ h; omega : ∀ (k : Nat) (hk : k < s.size), k < 0 → s[k] ≠ c)⟩
  case round =>
    obtain ⟨rfl, i, hig, rfl, hrel⟩ := hrel
    cases gk with
    | zero =>
      go_wp2
      go_ret
      exact ⟨ret_bool (hasB_no s c fun k hk => hrel.out k hk (by omega)).symm, rfl⟩
    | succ g =>
      have hi : i < s.size := by omega
      obtain ⟨x, hx⟩ : ∃ x : UInt8, s[i]'(by omega) = x := ⟨_, rfl⟩
      by_cases hc : x = c
      · subst hc
        go_wp2
        go_ret
        exact ⟨ret_bool (hasB_yes s x i hi hx).symm, rfl⟩
      · have hb : ((x.toNat : Int) == (c.toNat : Int)) = false := beq_eq_false_iff_ne.2 (fun e => hc (UInt8.toNat_inj.1 (by omega)))
        go_wp2
        go_roundg g
        case measure => omega
        case rel => exact ⟨rfl, i + 1, by omega, by first | rfl | simp, (by intro k hk hlt; by_cases e : k = i; (subst e; rw [hx]; exact hc); exact hrel.out k hk (by omega) : ∀ (k : Nat) (hk : k < s.size), k < i + 1 → s[k] ≠ c)⟩

/-- A pattern's byte c stands for the subject's place i: an action's, or a resource's. -/
def takeB (act : Bool) (text digits : List UInt8) (any : Bool) (i : Nat) (c : UInt8) : Bool :=
  if act then c.toNat == 63 || lat (text.getD i 0).toNat == lat c.toNat
  else if i < text.length then text.getD i 0 == c else any && hasB digits c

theorem getD_at (s : ByteArray) (i : Nat) (h : i < s.size) : s.data.toList.getD i 0 = s[i] := by
  rw [List.getD_eq_getElem?_getD, List.getElem?_eq_getElem (by simpa using h)]; rfl

set_option maxHeartbeats 400000 in
set_option maxRecDepth 100000 in
theorem takes (act : Bool) (text digits : ByteArray) (any : Bool) (i : Nat) (c : UInt8) (w : World) (hd : digits.size ≤ 1048576) (hi : act = true → i < text.size) :
    Calls Tryd.prog 69 #[.bool act, .string text, .string digits, .bool any, .int .i64 i, .int .u8 c.toNat] w fun e w' => e = .returned (.bool (takeB act text.data.toList digits.data.toList any i c)) ∧ w' = w := by
  cases act with
  | true =>
    have hi := hi rfl
    obtain ⟨x, hx⟩ : ∃ x : UInt8, text[i]'(by omega) = x := ⟨_, rfl⟩
    have hg := getD_at text i hi
    rw [hx] at hg
    have hx256 : x.toNat < 256 := x.toNat_lt
    have hc256 : c.toNat < 256 := c.toNat_lt
    have HE := hid (show takeB true text.data.toList digits.data.toList any i c = (c.toNat == 63 || lat x.toNat == lat c.toNat) by unfold takeB; rw [if_pos rfl, hg])
    go_enter Tryd.func69, Tryd.ntmps69
    go_wp2_with (go_at_call 80; refine (latin _ _ (by assumption)).mono ?_; rintro e w1 ⟨rfl, rfl⟩)
    all_goals
      go_ret
      refine ⟨ret_bool ?_, rfl⟩
      rw [HE.out]
    · have h : (c.toNat : Int) = 63 := by assumption
      have h' : c.toNat = 63 := by omega
      simp [h']
    · rw [show ((c.toNat : Int) == 63) = (c.toNat == 63) from beq_nat c.toNat 63, beq_nat]
  | false =>
    by_cases hlt : i < text.size
    · obtain ⟨x, hx⟩ : ∃ x : UInt8, text[i]'(by omega) = x := ⟨_, rfl⟩
      have hg := getD_at text i hlt
      rw [hx] at hg
      have HE := hid (show takeB false text.data.toList digits.data.toList any i c = (x == c) by unfold takeB; rw [if_neg (by simp), if_pos (by simpa using hlt), hg])
      go_enter Tryd.func69, Tryd.ntmps69
      go_wp2
      go_ret
      refine ⟨ret_bool ?_, rfl⟩
      rw [HE.out]
      rw [beq_nat, beq_u8]
    · have HE := hid (show takeB false text.data.toList digits.data.toList any i c = (any && hasB digits.data.toList c) by unfold takeB; rw [if_neg (by simp), if_neg (by simpa using hlt)])
      cases any with
      | true =>
        go_enter Tryd.func69, Tryd.ntmps69
        go_wp2_with (go_at_call 27; refine (hasByte _ _ _ hd).mono ?_; rintro e w1 ⟨rfl, rfl⟩)
        go_ret
        exact ⟨ret_bool (by rw [HE.out]; simp), rfl⟩
      | false =>
        go_enter Tryd.func69, Tryd.ntmps69
        go_wp2
        go_ret
        exact ⟨ret_bool (by rw [HE.out]; simp), rfl⟩
end Go.Proofs.Qxb6613124aDoor
