/-
  wildcardMatch: at every pattern.
-/
import Derived.Test.Qxb6613124aDoorOneT
import Derived.Test.Qxb6613124aDoorMoreT
namespace Go.Proofs.Qxb6613124aDoor
open Go.RowKit Go.Shelf
attribute [local go_sem] Oper.semAt_some

theorem wildT (tk : Nat → UInt8 → Bool) (n : Nat) (s : ByteArray) (L : Nat) (g : ByteArray) (ev : Bool) (p : ByteArray) (w : World) (hp : p.size ≤ 1048576) (hn : n ≤ 2097152) (HM : Hid (MatchT tk n s L g ev w)) (HI : Hid (IndexT tk n s L g ev w)) (HL : Hid (LenT n s L g ev)) (hm1 : ∀ w, (method 262 74 (.agg #[.string s, .int .i64 L, .string g, .bool ev]) "example.com/ensec/ensec/internal/policy.len").run Tryd.prog w = .ok (45, .agg #[.string s, .int .i64 L, .string g, .bool ev]) w) :
    Calls Tryd.prog 23 #[.string p, .agg #[.string s, .int .i64 L, .string g, .bool ev]] w fun e w' => e = .returned (.bool (D tk (bs p) n)) ∧ Below w.heap.size w w' := by
  by_cases hst : Lib.indexByte (bs p) 42 < 0
  · exact plainT tk n s L g ev p w hp HM HL hm1 hst
  · obtain ⟨o, ho⟩ : ∃ o : Nat, Lib.indexByte (bs p) 42 = o := ⟨(Lib.indexByte (bs p) 42).toNat, by omega⟩
    have HC : cutV p = .tuple #[.string (p.extract 0 o), .string (p.extract (o + 1) p.size), .bool true] := by unfold cutV; rw [if_neg hst, ho]; rfl
    have hlt := index_lt (bs p) 42
    rw [bs_len, ho] at hlt
    have hz1 : (p.extract 0 o).size = o := by simp; omega
    have hz2 : (p.extract (o + 1) p.size).size ≤ 1048576 := by simp; omega
    have HW := wild_star tk n p o ho
    generalize p.extract 0 o = first at *
    generalize p.extract (o + 1) p.size = rest at *
    by_cases hl : Lib.lastIndexByte rest 42 < 0
    · obtain ⟨h1, h2⟩ := wild_one tk n rest hl
      have hG := HW _ (bs rest) h1 (parts_clean _ _ (Nat.le_refl _)) h2
      cases hbf : matchB tk n (bs first) 0 with
      | false => exact noT tk n s L g ev p w hp HM first rest (by omega) HC hbf (hid (by rw [hbf] at hG; simpa using hG))
      | true => exact oneT tk n s L g ev p w hp hn HM HI HL hm1 first ⟨#[]⟩ rest o hz1 (by omega) (by decide) hz2 HC hbf (hid (by rw [hbf] at hG; simpa using hG)) hl rfl
    · obtain ⟨i, hi⟩ : ∃ i : Nat, Lib.lastIndexByte rest 42 = i := ⟨(Lib.lastIndexByte rest 42).toNat, by omega⟩
      obtain ⟨h0, h1, h2⟩ := wild_more tk n rest i hi
      have hG := HW _ _ h1 (parts_clean _ _ (Nat.le_refl _)) h2
      cases hbf : matchB tk n (bs first) 0 with
      | false => exact noT tk n s L g ev p w hp HM first rest (by omega) HC hbf (hid (by rw [hbf] at hG; simpa using hG))
      | true => exact moreT tk n s L g ev p w hp hn HM HI HL hm1 first rest (rest.extract 0 i) (rest.extract (i + 1) rest.size) o hz1 (by omega) (by simp; omega) (by simp; omega) HC hbf (hid (by rw [hbf] at hG; simpa using hG)) i hi h0 hz2 rfl rfl

theorem twild (p s : ByteArray) (L : Nat) (g : ByteArray) (ev : Bool) (w : World) (hp : p.size ≤ 1048576) (hs : s.size ≤ 1048576) (hL : L ≤ 1048576) :
    Calls Tryd.prog 23 #[.string p, .agg #[.string s, .int .i64 L, .string g, .bool ev]] w fun e w' => e = .returned (.bool (D (takeB false (bs s) (bs g) (!ev)) (bs p) (s.size + L))) ∧ Below w.heap.size w w' :=
  wildT _ (s.size + L) s L g ev p w hp (by omega) (hid (fun t i W ht hi _ => tmatch s L g ev t i W hs hL ht hi)) (hid (fun t a W ht ha _ => tindex s L g ev t a W hs hL ht ha)) (hid (fun W => tlen s L g ev W hs hL)) (tm_len s g L ev)
end Go.Proofs.Qxb6613124aDoor
