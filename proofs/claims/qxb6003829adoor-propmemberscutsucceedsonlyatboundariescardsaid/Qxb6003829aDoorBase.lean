/-
  Seat b6003829aD: bytes in memory; the walks of bytes.trimRightByte (21) and bytes.TrimRight (18) at the cutset " ".
-/
import Derived.Test.Qxb6003829aDoorPlain
import Derived.Test.Qxb6003829aDoorProg
import Derived.WalkKit
import Derived.WalkSpells
import Derived.WalkLawsBesides
import Derived.Deep.LoopGhost
namespace Go.Proofs.Qxb6003829aDoor
open Go.RowKit

/-- The cells from o on hold the bytes l. -/
def Bs (w : World) (b o : Nat) (l : List UInt8) : Prop := ∀ (j : Nat) (h : j < l.length), w.cell? ⟨b, o + j, none⟩ = some (.int .u8 (l[j].toNat : Int))

theorem Bs.below {w w' : World} {b o : Nat} {l : List UInt8} (h : Bs w b o l) (hb : b < w.heap.size) (hB : Below w.heap.size w w') : Bs w' b o l :=
  fun j hj => (hB.cell (p := ⟨b, o + j, none⟩) hb).trans (h j hj)
theorem Bs.drop {w : World} {b o : Nat} {l : List UInt8} (h : Bs w b o l) (k : Nat) : Bs w b (o + k) (l.drop k) := by
  intro j hj
  rw [List.length_drop] at hj
  rw [List.getElem_drop, Nat.add_assoc]
  exact h (k + j) (by omega)
theorem Bs.take {w : World} {b o : Nat} {l : List UInt8} (h : Bs w b o l) (k : Nat) : Bs w b o (l.take k) := by
  intro j hj
  rw [List.length_take] at hj
  rw [List.getElem_take]
  exact h j (by omega)

theorem byte_ne {c : UInt8} : (((c.toNat : Int) == 32) = true) ↔ c = 32 := by
  rw [beq_iff_eq]
  constructor
  · intro h
    apply UInt8.toNat_inj.1
    show c.toNat = 32
    omega
  · intro h; subst h; rfl

theorem ret_slice {a : Option Addr} {n n' c : Nat} (h : n = n') : Ending.returned (.slice a n c) = .returned (.slice a n' c) := by rw [h]
theorem ret_bool {a b : Bool} (h : a = b) : Ending.returned (.bool a) = .returned (.bool b) := by rw [h]

theorem take_last (l : List UInt8) (k : Nat) (h : k < l.length) : l.take (k + 1) = l.take k ++ [l[k]] := List.take_succ_eq_append_getElem h

set_option maxHeartbeats 400000 in
set_option maxRecDepth 100000 in
theorem trimByte (l : List UInt8) (b o c : Nat) (w : World) (hl : l.length ≤ 1048576) (hc : l.length ≤ c) (hB : Hid (Bs w b o l)) :
    Calls Tryd.prog 21 #[.slice (some ⟨b, o, none⟩) l.length c, .int .u8 32] w fun e w' => e = .returned (.slice (some ⟨b, o, none⟩) (rtrim l).length c) ∧ w' = w := by
  go_enter Tryd.func21, Tryd.ntmps21
  go_wp2
  go_loopg [0] l.length (fun g s0 wx => w = wx ∧ g ≤ l.length ∧ s0 = .slice (some ⟨b, o, none⟩) g c ∧ Hid (rtrim (l.take g) = rtrim l))
  case atStart => exact ⟨rfl, Nat.le_refl _, rfl, (by rw [List.take_length] : rtrim (l.take l.length) = rtrim l)⟩
  case round =>
    obtain ⟨rfl, hg, rfl, hr⟩ := hrel
    cases gk with
    | zero =>
      have hz : Hid ((rtrim l).length = 0) := by have := hr.out; simp [rtrim_nil] at this; show (rtrim l).length = 0; rw [this]; rfl
      go_wp2
      go_ret
      exact ⟨ret_slice hz.out.symm, rfl⟩
    | succ g =>
      have hcell := hB.out g (by omega)
      have htl := take_last l g (by omega)
      by_cases hq : l[g] = 32
      · have hbq : ((l[g].toNat : Int) == 32) = true := byte_ne.2 hq
        have hr' : Hid (rtrim (l.take g) = rtrim l) := by show rtrim (l.take g) = rtrim l; rw [← hr.out, htl, hq, rtrim_snoc_blank]
        clear hq htl
        generalize l[g] = x at *
        go_wp2
        go_roundg g
        case measure => omega
        case rel => exact ⟨rfl, by omega, by first | rfl | simp, hr'⟩
      · have hbq : ((l[g].toNat : Int) == 32) = false := by
          cases e : ((l[g].toNat : Int) == 32)
          · rfl
          · exact absurd (byte_ne.1 e) hq
        have hz : Hid ((rtrim l).length = g + 1) := by show (rtrim l).length = g + 1; rw [← hr.out, htl, rtrim_snoc_other _ _ hq]; simp; omega
        clear hq htl
        generalize l[g] = x at *
        go_wp2
        go_ret
        exact ⟨ret_slice hz.out.symm, rfl⟩

set_option maxHeartbeats 400000 in
set_option maxRecDepth 100000 in
theorem trimRight (l : List UInt8) (b o c : Nat) (w : World) (h0 : 0 < l.length) (hl : l.length ≤ 1048576) (hc : l.length ≤ c) (hB : Hid (Bs w b o l)) :
    Calls Tryd.prog 18 #[.slice (some ⟨b, o, none⟩) l.length c, .string ⟨#[32]⟩] w fun e w' => e = .returned (.slice (some ⟨b, o, none⟩) (rtrim l).length c) ∧ w' = w := by
  have hz : ((l.length : Int) == 0) = false := by rw [beq_eq_false_iff_ne]; omega
  go_enter Tryd.func18, Tryd.ntmps18
  go_wp2_with (go_at_call 21; refine (trimByte l b o c _ hl hc hB).mono ?_; rintro e w1 ⟨rfl, rfl⟩)
  go_ret
  exact ⟨rfl, rfl⟩
end Go.Proofs.Qxb6003829aDoor
