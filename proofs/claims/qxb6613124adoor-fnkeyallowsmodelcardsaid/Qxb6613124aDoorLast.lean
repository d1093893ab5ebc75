/-
  A REGION THAT DRAWS ITS ORDER, ALL OF WHOSE OPERATIONS ARE QUIET IN A CLASS OF WORLDS BUT THE LAST, WHICH WAITS FOR EVERY OTHER ('result = f(x) && g(y)', the result in a cell): one walk of the text's order serves. This seat's own law, over the guide's theory of quiet operations inside a fence.
-/
import Derived.Sort.QuietThIn
import Derived.StillTail
import Derived.Lib.QuietBelowIn
namespace Go.Proofs.Qxb6613124aDoor
open Go.RowKit Go.Sort

section
variable {F : Fence} {n : Nat} {P : Program} {ops : Array Oper} {md : Region.Mode} {C : World → Prop}

/-- Whatever order is picked: the operations but m are quiet, m alone is left. -/
def wpAnyT (F : Fence) (n : Nat) (P : Program) (md : Region.Mode) (ops : Array Oper) (C : World → Prop) (m : Nat) (Q : Act → Prop) : Nat → Array Bool → Act → Prop
  | 0, listed, a => Region.seqB md ops 1 m listed = true ∧ Q a
  | f + 1, listed, a => Region.ready md ops listed ≠ [] ∧ ∀ i ∈ Region.ready md ops listed, qOpIn F n P ops C i (wpAnyT F n P md ops C m Q f (listed.setIfInBounds i true)) a

theorem seq_one {m : Nat} {listed : Array Bool} (h : Region.seqB md ops 1 m listed = true) : Region.ready md ops listed = [m] ∧ Region.ready md ops (listed.setIfInBounds m true) = [] := by
  simp only [Region.seqB, Bool.and_eq_true, decide_eq_true_eq, List.isEmpty_iff] at h
  exact h

theorem anyIn_of_T {m : Nat} {Q : Act → Prop} {Q' : Exit → Act → World → Prop} (hro : F.round = none) (hQ : ∀ a w, C w → Q a → wpOpIn F n P ops Q' m (fun a w => Q' .normal a w) a w) : ∀ (f : Nat) (listed : Array Bool) (a : Act) (w : World), C w →
    wpAnyT F n P md ops C m Q f listed a → wpAnyIn F n P md ops Q' (f + 1) listed a w
  | 0, listed, a, w, hw, h => by
    obtain ⟨h1, h2⟩ := seq_one h.1
    refine ⟨fun h0 => (by rw [h1] at h0; cases h0), fun i hi => ?_⟩
    rw [h1] at hi
    obtain rfl : i = m := by simpa using hi
    exact wpOpIn_mono (fun a' w' hq => ⟨h2, hq⟩) (hQ a w hw h.2)
  | f + 1, listed, a, w, hw, h => ⟨fun h0 => absurd h0 h.1, fun i hi => wpOpIn_of_qOpIn hro hw (fun a' w' hw' => anyIn_of_T hro hQ f _ a' w' hw') (h.2 i hi)⟩

theorem anyT_first {m : Nat} {Q : Act → Prop} {i : Nat} {oi : Oper} {v : Value} (hi : ops[i]? = some oi) (hsel : ∀ (j : Nat) (o : Oper) cs b, ops[j]? = some o → o.op ≠ .select cs b) (hwait : Region.waitsFor md ops m i = true) :
    ∀ (f : Nat) (listed : Array Bool) (a : Act),
      (∀ j oj, ops[j]? = some oj → j ≠ i → listed.getD j true = false → (∀ e ∈ oj.after, Region.binds md e = true → e.on ≠ i) → oi.apart ops oj = true) →
      i ∈ Region.ready md ops listed → YieldsQuiet F n P ops C oi v a →
      wpAnyT F n P md ops C m Q f (listed.setIfInBounds i true) (a.put oi.dst v) → wpAnyT F n P md ops C m Q (f + 1) listed a := by
  have off : ∀ {listed : Array Bool} {j : Nat} {oj : Oper}, i ∈ Region.ready md ops listed → ops[j]? = some oj → (∀ e ∈ oj.after, Region.binds md e = true → listed.getD e.on false = true) → ∀ e ∈ oj.after, Region.binds md e = true → e.on ≠ i := by
    intro listed j oj hr _ hall e he hb heq
    have h1 := hall e he hb
    rw [heq, getD_both (mem_ready.1 hr).1] at h1
    cases h1
  intro f
  induction f with
  | zero =>
    intro listed a _ hr hy H
    refine ⟨fun h => (by rw [h] at hr; cases hr), fun j hj => ?_⟩
    by_cases hji : j = i
    · subst hji; exact hy.qOpIn hi H
    · exfalso
      have hjm := ready_mono hj hji
      rw [(seq_one H.1).1] at hjm
      obtain rfl : j = m := by simpa using hjm
      obtain ⟨_, oj, hoj, hall⟩ := mem_ready.1 hj
      obtain ⟨om, hom, e, he, hb, hon⟩ := Region.waitsFor_spec hwait
      have : om = oj := Option.some.inj (hom.symm.trans hoj)
      subst this
      exact off hr hoj hall e he hb hon
  | succ f ih =>
    intro listed a hfree hr hy H
    refine ⟨fun h => (by rw [h] at hr; cases hr), fun j hj => ?_⟩
    by_cases hji : j = i
    · subst hji; exact hy.qOpIn hi H
    · obtain ⟨hjun, oj, hoj, hall⟩ := mem_ready.1 hj
      have h2 := qOpIn_put hoj (hfree j oj hoj hji hjun (off hr hoj hall)) (fun cs b => hsel i oi cs b hi) (fun cs b => hsel j oj cs b hoj) hy (H.2 j (ready_mono hj hji))
      refine qOpIn_mono (fun a' h3 => ih (listed.setIfInBounds j true) a' (fun k ok hk hki hun hno => hfree k ok hk hki ?_ hno) (ready_mono hr (Ne.symm hji)) h3.1 ?_) h2
      · by_cases hjk : j = k
        · subst hjk; exact hjun
        · rw [getD_set_ne true hjk] at hun; exact hun
      · rw [Array.setIfInBounds_comm _ _ hji]
        exact h3.2

theorem anyT_lex {m : Nat} {Q : Act → Prop} (hs : Region.noSelect ops = true) (hall : (List.range m).all (fun i => Region.waitsFor md ops m i) = true) : ∀ (l : List Oper) (k : Nat) (listed : Array Bool) (a : Act), (∀ j, j < l.length → l[j]? = ops[k + j]?) → k + l.length = m →
    Region.lexHead md ops 1 l.length k listed = true → wpQuietIn F n P ops C Q l a → wpAnyT F n P md ops C m Q l.length listed a
  | [], k, listed, a, _, hk, hB, h => by
    obtain rfl : k = m := by simpa using hk
    exact ⟨by simpa [Region.lexHead] using hB, h⟩
  | o :: l, k, listed, a, hl, hk, hB, h => by
    have h0 : ops[k]? = some o := by simpa using (hl 0 (by simp)).symm
    simp only [List.length_cons] at hk
    simp only [List.length_cons, Region.lexHead, Bool.and_eq_true] at hB
    obtain ⟨⟨hr, hf⟩, hB'⟩ := hB
    have hst : qOpIn F n P ops C k (wpQuietIn F n P ops C Q l) a := by unfold qOpIn; simp only [h0]; exact h
    obtain ⟨v, hy, hK⟩ := yieldsQuiet_of_qOpIn h0 hst
    exact anyT_first h0 (Region.noSelect_spec hs) (List.all_eq_true.1 hall k (List.mem_range.2 (by omega))) l.length listed a (Region.free_spec h0 hf) (by simpa using hr) hy
      (anyT_lex hs hall l (k + 1) _ _ (fun j hj => by have := hl (j + 1) (by simp; omega); simpa [Nat.add_assoc, Nat.add_comm 1 j] using this) (by omega) hB' hK)

def lastB (ops : Array Oper) (m : Nat) : Bool := Region.noSelect ops && decide (ops.size = m + 1) && (List.range m).all (fun i => Region.waitsFor .any ops m i) && Region.lexHead .any ops 1 m 0 (Array.replicate ops.size false)

/-- All quiet but the last. -/
theorem region_last {id : Nat} {Q : Exit → Act → World → Prop} {a : Act} {w : World} {l : List Oper} {st : Oper} (m : Nat) (hro : F.round = none) (hm : P.follows .mixedOrders = true) (hz : l.length = m) (hB : lastB (l ++ [st]).toArray m = true)
    (h : wpQuietIn F n P (l ++ [st]).toArray (fun w' => ∃ p : Regrown, w' = grow (redrawn w p.d) p.os) (fun a' => ∀ w', (∃ p : Regrown, w' = grow (redrawn w p.d) p.os) → wpListIn F n P (l ++ [st]).toArray Q [st] a' w') l a) : (Code.region id (l ++ [st]).toArray true).wpIn F n P Q a w := by
  simp only [lastB, Bool.and_eq_true, decide_eq_true_eq] at hB
  obtain ⟨⟨⟨h1, h2⟩, h3⟩, h4⟩ := hB
  refine wpIn_region_any hm ?_
  rw [h2]
  have hT := anyT_lex (F := F) (n := n) (P := P) (C := fun w' => ∃ p : Regrown, w' = grow (redrawn w p.d) p.os) h1 h3 l 0 (Array.replicate (l ++ [st]).toArray.size false) a (fun j hj => by simp [List.getElem?_append_left hj]) (by omega) (by rw [hz]; exact h4) h
  rw [hz, h2] at hT
  refine anyIn_of_T hro (fun a' w' hw' hq => ?_) m _ a _ ⟨⟨w.drawn + 1, #[]⟩, by rw [grow_empty]; rfl⟩ hT
  have hst : (l ++ [st]).toArray[m]? = some st := by simp [← hz]
  have hq := hq w' hw'
  unfold wpOpIn
  rw [hst]
  exact hq

theorem region_last' {id : Nat} {Q : Exit → Act → World → Prop} {a : Act} {w : World} {l : List Oper} (m : Nat) (hro : F.round = none) (hm : P.follows .mixedOrders = true) (hB : lastB l.toArray m = true)
    (h : wpQuietIn F n P l.toArray (fun w' => ∃ p : Regrown, w' = grow (redrawn w p.d) p.os) (fun a' => ∀ w', (∃ p : Regrown, w' = grow (redrawn w p.d) p.os) → wpListIn F n P l.toArray Q (l.drop m) a' w') (l.take m) a) : (Code.region id l.toArray true).wpIn F n P Q a w := by
  have hz : l.length = m + 1 := by
    simp only [lastB, Bool.and_eq_true, decide_eq_true_eq] at hB
    simpa using hB.1.1.2
  obtain ⟨k, st, rfl⟩ : ∃ k st, l = k ++ [st] := ⟨l.dropLast, l.getLast (by intro e; rw [e] at hz; simp at hz), (List.dropLast_concat_getLast _).symm⟩
  have hk : k.length = m := by simpa using hz
  rw [List.take_left' hk, List.drop_left' hk] at h
  exact region_last m hro hm hk hB h
end
end Go.Proofs.Qxb6613124aDoor
