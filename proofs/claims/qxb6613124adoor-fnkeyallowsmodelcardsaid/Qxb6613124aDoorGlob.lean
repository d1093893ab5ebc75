/-
  THE PLAIN LAW of seat b6613124aD: patterns with stars: the table of prefixes and the greedy matcher answer alike. No Go text, no program here.
-/
import Derived.Lib.Space
namespace Go.Proofs.Qxb6613124aDoor

section
variable (tk : Nat → UInt8 → Bool)

/-- The pattern p stands for the subject's places i .. j. -/
def M : List UInt8 → Nat → Nat → Prop
  | [], i, j => i = j
  | c :: p, i, j => if c = 42 then ∃ k, i ≤ k ∧ k ≤ j ∧ M p k j else i < j ∧ tk i c = true ∧ M p (i + 1) j

theorem M_le : ∀ (p : List UInt8) (i j : Nat), M tk p i j → i ≤ j
  | [], i, j, h => Nat.le_of_eq h
  | c :: p, i, j, h => by
    unfold M at h
    split at h
    · obtain ⟨k, h1, h2, _⟩ := h; omega
    · omega

theorem M_append : ∀ (p q : List UInt8) (i j : Nat), M tk (p ++ q) i j ↔ ∃ k, M tk p i k ∧ M tk q k j
  | [], q, i, j => by
    constructor
    · intro h; exact ⟨i, rfl, h⟩
    · rintro ⟨k, h1, h2⟩
      have e : i = k := h1
      subst e
      exact h2
  | c :: p, q, i, j => by
    rw [List.cons_append]
    by_cases hc : c = 42
    · constructor
      · intro h
        unfold M at h
        rw [if_pos hc] at h
        obtain ⟨k, h1, h2, h3⟩ := h
        obtain ⟨m, h4, h5⟩ := (M_append p q k j).1 h3
        refine ⟨m, ?_, h5⟩
        unfold M
        rw [if_pos hc]
        exact ⟨k, h1, M_le tk p k m h4, h4⟩
      · rintro ⟨m, h1, h2⟩
        unfold M at h1
        rw [if_pos hc] at h1
        obtain ⟨k, h3, h4, h5⟩ := h1
        unfold M
        rw [if_pos hc]
        have := M_le tk q m j h2
        exact ⟨k, h3, by omega, (M_append p q k j).2 ⟨m, h5, h2⟩⟩
    · constructor
      · intro h
        unfold M at h
        rw [if_neg hc] at h
        obtain ⟨h1, h2, h3⟩ := h
        obtain ⟨m, h4, h5⟩ := (M_append p q (i + 1) j).1 h3
        refine ⟨m, ?_, h5⟩
        have := M_le tk p (i + 1) m h4
        unfold M
        rw [if_neg hc]
        exact ⟨by omega, h2, h4⟩
      · rintro ⟨m, h1, h2⟩
        unfold M at h1
        rw [if_neg hc] at h1
        obtain ⟨h3, h4, h5⟩ := h1
        have := M_le tk q m j h2
        unfold M
        rw [if_neg hc]
        exact ⟨by omega, h4, (M_append p q (i + 1) j).2 ⟨m, h5, h2⟩⟩

/-- The text t, without a star, at place i. -/
def Lit (t : List UInt8) (i : Nat) : Prop := ∀ (q : Nat) (h : q < t.length), tk (i + q) t[q] = true

theorem M_lit : ∀ (t : List UInt8) (i j : Nat), (∀ c ∈ t, c ≠ 42) → (M tk t i j ↔ j = i + t.length ∧ Lit tk t i)
  | [], i, j, _ => by
    constructor
    · intro h
      exact ⟨(show i = j from h).symm, fun q hq => by simp at hq⟩
    · rintro ⟨h, _⟩
      exact (show j = i from h).symm
  | c :: t, i, j, hs => by
    have hc : c ≠ 42 := hs c (by simp)
    have ih := M_lit t (i + 1) j (fun x hx => hs x (by simp [hx]))
    unfold M
    rw [if_neg hc, ih]
    constructor
    · rintro ⟨_, h2, h3, h4⟩
      refine ⟨by simp; omega, fun q hq => ?_⟩
      cases q with
      | zero => exact h2
      | succ q =>
        have := h4 q (by simpa using hq)
        rw [show i + (q + 1) = i + 1 + q by omega]
        exact this
    · rintro ⟨h1, h2⟩
      refine ⟨by simp at h1; omega, h2 0 (by simp), by simp at h1; omega, fun q hq => ?_⟩
      have := h2 (q + 1) (by simpa using hq)
      rw [show i + (q + 1) = i + 1 + q by omega] at this
      exact this

/-! ### the greedy matcher -/
/-- The first place from 'at' on where t stands, within n; f: how many places are tried. -/
def idx (n : Nat) (t : List UInt8) : Nat → Nat → Option Nat
  | 0, _ => none
  | f + 1, a => if a + t.length ≤ n then (if (t.mapIdx fun q c => tk (a + q) c).all id then some a else idx n t f (a + 1)) else none

theorem lit_all (t : List UInt8) (i : Nat) : (t.mapIdx fun q c => tk (i + q) c).all id = true ↔ Lit tk t i := by
  rw [List.all_eq_true]
  constructor
  · intro h q hq
    exact h _ (List.mem_mapIdx.2 ⟨q, hq, rfl⟩)
  · intro h x hx
    obtain ⟨q, hq, rfl⟩ := List.mem_mapIdx.1 hx
    exact h q hq

theorem idx_some : ∀ (f n : Nat) (t : List UInt8) (a i : Nat), idx tk n t f a = some i → a ≤ i ∧ i + t.length ≤ n ∧ Lit tk t i ∧ ∀ k, a ≤ k → k < i → ¬ Lit tk t k
  | 0, n, t, a, i, h => by cases h
  | f + 1, n, t, a, i, h => by
    unfold idx at h
    split at h
    · rename_i hn
      split at h
      · rename_i hl
        cases h
        exact ⟨Nat.le_refl _, hn, (lit_all tk t a).1 hl, fun k h1 h2 => by omega⟩
      · rename_i hl
        obtain ⟨h1, h2, h3, h4⟩ := idx_some f n t (a + 1) i h
        refine ⟨by omega, h2, h3, fun k hk1 hk2 => ?_⟩
        by_cases e : k = a
        · subst e
          exact fun hh => hl ((lit_all tk t k).2 hh)
        · exact h4 k (by omega) hk2
    · cases h

theorem idx_none : ∀ (f n : Nat) (t : List UInt8) (a : Nat), n + 1 ≤ a + f → idx tk n t f a = none → ∀ k, a ≤ k → k + t.length ≤ n → ¬ Lit tk t k
  | 0, n, t, a, hf, _, k, h1, h2 => by omega
  | f + 1, n, t, a, hf, h, k, h1, h2 => by
    unfold idx at h
    split at h
    · split at h
      · cases h
      · rename_i hl
        by_cases e : k = a
        · subst e
          exact fun hh => hl ((lit_all tk t k).2 hh)
        · exact idx_none f n t (a + 1) (by omega) h k (by omega) h2
    · omega

/-- The parts one behind the other, each where it first stands; then the last, at the end. -/
def Greedy (n : Nat) (last : List UInt8) : List (List UInt8) → Nat → Prop
  | [], a => a + last.length ≤ n ∧ Lit tk last (n - last.length)
  | t :: ts, a => ∃ i, idx tk n t (n + 1) a = some i ∧ Greedy n last ts (i + t.length)

/-- The pattern behind the first star. -/
def tailP (last : List UInt8) : List (List UInt8) → List UInt8
  | [] => last
  | t :: ts => t ++ (42 :: tailP last ts)

theorem greedy_mono {n : Nat} {last : List UInt8} : ∀ (ts : List (List UInt8)) (a b : Nat), b ≤ a → Greedy tk n last ts a → Greedy tk n last ts b
  | [], a, b, hb, h => ⟨by have := h.1; omega, h.2⟩
  | t :: ts, a, b, hb, h => by
    obtain ⟨i, hi, hg⟩ := h
    obtain ⟨h1, h2, h3, _⟩ := idx_some tk (n + 1) n t a i hi
    cases hx : idx tk n t (n + 1) b with
    | none => exact absurd h3 (idx_none tk (n + 1) n t b (by omega) hx i (by omega) h2)
    | some k =>
      obtain ⟨k1, k2, k3, k4⟩ := idx_some tk (n + 1) n t b k hx
      refine ⟨k, hx, greedy_mono ts _ _ ?_ hg⟩
      rcases Nat.lt_or_ge i k with hlt | hge
      · exact absurd h3 (k4 i (by omega) hlt)
      · omega

/-- A star, the parts, the last: the greedy matcher answers as the pattern says. -/
theorem greedy_iff {n : Nat} {last : List UInt8} (hl : ∀ c ∈ last, c ≠ 42) : ∀ (ts : List (List UInt8)), (∀ t ∈ ts, ∀ c ∈ t, c ≠ 42) → ∀ a, (M tk (42 :: tailP last ts) a n ↔ Greedy tk n last ts a)
  | [], _, a => by
    unfold M Greedy tailP
    rw [if_pos rfl]
    constructor
    · rintro ⟨k, h1, h2, h3⟩
      obtain ⟨e, hlit⟩ := (M_lit tk last k n hl).1 h3
      have : n - last.length = k := by omega
      rw [this]
      exact ⟨by omega, hlit⟩
    · rintro ⟨h1, h2⟩
      exact ⟨n - last.length, by omega, by omega, (M_lit tk last _ n hl).2 ⟨by omega, h2⟩⟩
  | t :: ts, hts, a => by
    have ih := greedy_iff (n := n) hl ts (fun x hx => hts x (by simp [hx]))
    have ht := hts t (by simp)
    unfold tailP
    constructor
    · intro h
      unfold M at h
      rw [if_pos rfl] at h
      obtain ⟨k, h1, h2, h3⟩ := h
      obtain ⟨m, h4, h5⟩ := (M_append tk t _ k n).1 h3
      obtain ⟨e, hlit⟩ := (M_lit tk t k m ht).1 h4
      have hg := (ih m).1 h5
      have hmn := M_le tk _ _ _ h5
      cases hx : idx tk n t (n + 1) a with
      | none => exact absurd hlit (idx_none tk (n + 1) n t a (by omega) hx k h1 (by omega))
      | some i =>
        obtain ⟨k1, k2, k3, k4⟩ := idx_some tk (n + 1) n t a i hx
        refine ⟨i, hx, greedy_mono tk ts _ _ ?_ hg⟩
        rcases Nat.lt_or_ge k i with hlt | hge
        · exact absurd hlit (k4 k h1 hlt)
        · omega
    · rintro ⟨i, hi, hg⟩
      obtain ⟨h1, h2, h3, _⟩ := idx_some tk (n + 1) n t a i hi
      unfold M
      rw [if_pos rfl]
      exact ⟨i, h1, by omega, (M_append tk t _ i n).2 ⟨i + t.length, (M_lit tk t i _ ht).2 ⟨rfl, h3⟩, (ih _).2 hg⟩⟩

/-! ### the table -/
/-- The places that the prefix p of a pattern can end at, as the table's row. -/
theorem M_snoc (p : List UInt8) (c : UInt8) (j : Nat) : M tk (p ++ [c]) 0 j ↔ if c = 42 then ∃ k, k ≤ j ∧ M tk p 0 k else 0 < j ∧ M tk p 0 (j - 1) ∧ tk (j - 1) c = true := by
  rw [M_append]
  by_cases hc : c = 42
  · rw [if_pos hc]
    constructor
    · rintro ⟨k, h1, h2⟩
      unfold M at h2
      rw [if_pos hc] at h2
      obtain ⟨m, h3, h4, h5⟩ := h2
      exact ⟨k, by omega, h1⟩
    · rintro ⟨k, h1, h2⟩
      refine ⟨k, h2, ?_⟩
      unfold M
      rw [if_pos hc]
      exact ⟨j, h1, Nat.le_refl _, rfl⟩
  · rw [if_neg hc]
    constructor
    · rintro ⟨k, h1, h2⟩
      unfold M at h2
      rw [if_neg hc] at h2
      obtain ⟨h3, h4, h5⟩ := h2
      have e : k + 1 = j := h5
      have e2 : j - 1 = k := by omega
      rw [e2]
      exact ⟨by omega, h1, h4⟩
    · rintro ⟨h1, h2, h3⟩
      refine ⟨j - 1, h2, ?_⟩
      unfold M
      rw [if_neg hc]
      exact ⟨by omega, h3, by show j - 1 + 1 = j; omega⟩
end
end Go.Proofs.Qxb6613124aDoor
