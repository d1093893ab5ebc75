/-
  wildcardMatch: at every pattern.
-/
import Derived.Test.Qxb6613124aDoorOneA
import Derived.Test.Qxb6613124aDoorMoreA
namespace Go.Proofs.Qxb6613124aDoor
open Go.RowKit Go.Shelf
attribute [local go_sem] Oper.semAt_some

theorem wildA (tk : Nat → UInt8 → Bool) (n : Nat) (s : ByteArray) (p : ByteArray) (w : World) (hp : p.size ≤ 1048576) (hn : n ≤ 2097152) (HM : Hid (MatchA tk n s w)) (HI : Hid (IndexA tk n s w)) (HL : Hid (LenA n s)) (hm1 : ∀ w, (method 262 102 (.string s) "example.com/ensec/ensec/internal/policy.len").run Tryd.prog w = .ok (103, .string s) w) :
    Calls Tryd.prog 51 #[.string p, .string s] w fun e w' => e = .returned (.bool (D tk (bs p) n)) ∧ Below w.heap.size w w' := by
  by_cases hst : Lib.indexByte (bs p) 42 < 0
  · exact plainA tk n s p w hp HM HL hm1 hst
  · obtain ⟨o, ho⟩ : ∃ o : Nat, Lib.indexByte (bs p) 42 = o := ⟨(Lib.indexByte (bs p) 42).toNat, by omega⟩
    have HC : cutV p = .tuple #[.string (p.extract 0 o), .string (p.extract (o + 1) p.size), .bool true] := by unfold cutV; rw [if_neg hst, ho]; rfl
    have hlt := index_lt (bs p) 42
    rw [bs_len, ho] at hlt
    have hz1 : (p.extract 0 o).size = o := by simp; omega
    have hz2 : (p.extract (o + 1) p.size).size ≤ 1048576 := by simp; omega
    have HW := wild_star tk n p o ho
    generalize p.extract 0 o = first at *
    generalize p.extract (o + 1) p.size = rest at *
    by_cases hl : Lib.lastIndexByte rest 42 < 0
    · obtain ⟨h1, h2⟩ := wild_one tk n rest hl
      have hG := HW _ (bs rest) h1 (parts_clean _ _ (Nat.le_refl _)) h2
      cases hbf : matchB tk n (bs first) 0 with
      | false => exact noA tk n s p w hp HM first rest (by omega) HC hbf (hid (by rw [hbf] at hG; simpa using hG))
      | true => exact oneA tk n s p w hp hn HM HI HL hm1 first ⟨#[]⟩ rest o hz1 (by omega) (by decide) hz2 HC hbf (hid (by rw [hbf] at hG; simpa using hG)) hl rfl
    · obtain ⟨i, hi⟩ : ∃ i : Nat, Lib.lastIndexByte rest 42 = i := ⟨(Lib.lastIndexByte rest 42).toNat, by omega⟩
      obtain ⟨h0, h1, h2⟩ := wild_more tk n rest i hi
      have hG := HW _ _ h1 (parts_clean _ _ (Nat.le_refl _)) h2
      cases hbf : matchB tk n (bs first) 0 with
      | false => exact noA tk n s p w hp HM first rest (by omega) HC hbf (hid (by rw [hbf] at hG; simpa using hG))
      | true => exact moreA tk n s p w hp hn HM HI HL hm1 first rest (rest.extract 0 i) (rest.extract (i + 1) rest.size) o hz1 (by omega) (by simp; omega) (by simp; omega) HC hbf (hid (by rw [hbf] at hG; simpa using hG)) i hi h0 hz2 rfl rfl

theorem awild (p s : ByteArray) (any : Bool) (w : World) (hp : p.size ≤ 1048576) (hs : s.size ≤ 1048576) (hV : Cases w) :
    Calls Tryd.prog 51 #[.string p, .string s] w fun e w' => e = .returned (.bool (D (takeB true (bs s) [] any) (bs p) s.size)) ∧ Below w.heap.size w w' :=
  wildA _ s.size s p w hp (by omega) (hid (fun t i W ht hi hb => amatch s t i any W W hs ht hi (hV.below hb) (Below.refl _ _))) (hid (fun t a W ht ha hb => aindex s t a any W W hs ht ha (hV.below hb) (Below.refl _ _)))
    (hid (fun W => (alen s W).mono (by rintro e w' ⟨rfl, rfl⟩; exact ⟨rfl, Below.refl _ _⟩))) (am_len s)
end Go.Proofs.Qxb6613124aDoor
