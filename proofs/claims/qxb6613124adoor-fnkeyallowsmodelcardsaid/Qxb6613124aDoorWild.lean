/-
  THE PLAIN LAW of wildcardMatch: the first part, the parts between the stars where each first stands, the last: as the table says.
-/
import Derived.Test.Qxb6613124aDoorSeq
namespace Go.Proofs.Qxb6613124aDoor
open Go.RowKit

section
variable (tk : Nat → UInt8 → Bool)

theorem idx_fuel (n : Nat) (t : List UInt8) : ∀ (f f' a : Nat), n + 1 ≤ a + f → n + 1 ≤ a + f' → idx tk n t f a = idx tk n t f' a
  | 0, 0, a, _, _ => rfl
  | 0, f' + 1, a, h, _ => by unfold idx; rw [if_neg (by omega)]
  | f + 1, 0, a, _, h => by unfold idx; rw [if_neg (by omega)]
  | f + 1, f' + 1, a, h, h' => by
    unfold idx
    rw [idx_fuel n t f f' (a + 1) (by omega) (by omega)]

theorem idxI_eq (n : Nat) (t : List UInt8) (a : Nat) : idxI tk n t a = match idx tk n t (n + 1) a with | some i => (i : Int) | none => -1 := by
  unfold idxI
  rw [idx_fuel tk n t (n + 1 - a) (n + 1) a (by omega) (by omega)]
  cases idx tk n t (n + 1) a <;> rfl

theorem greedy_stop {n : Nat} {last t : List UInt8} {a : Nat} (h : idxI tk n t a < 0) (ts : List (List UInt8)) : ¬ Greedy tk n last (t :: ts) a := by
  rw [idxI_eq] at h
  rintro ⟨i, hi, _⟩
  rw [hi] at h
  change (i : Int) < 0 at h
  omega
theorem greedy_next {n : Nat} {last t : List UInt8} {a i : Nat} (h : idxI tk n t a = i) (ts : List (List UInt8)) : i + t.length ≤ n ∧ (Greedy tk n last (t :: ts) a ↔ Greedy tk n last ts (i + t.length)) := by
  rw [idxI_eq] at h
  cases hx : idx tk n t (n + 1) a with
  | none => rw [hx] at h; change (-1 : Int) = i at h; omega
  | some k =>
    rw [hx] at h
    change (k : Int) = i at h
    obtain rfl : k = i := by omega
    refine ⟨(idx_some tk (n + 1) n t a k hx).2.1, ?_⟩
    constructor
    · rintro ⟨i, hi, hg⟩
      rw [hx] at hi
      cases hi
      exact hg
    · intro hg
      exact ⟨k, hx, hg⟩
theorem idxI_cases (n : Nat) (t : List UInt8) (a : Nat) : idxI tk n t a < 0 ∨ ∃ i : Nat, idxI tk n t a = i := by
  rw [idxI_eq]
  cases idx tk n t (n + 1) a with
  | none => exact .inl (by simp)
  | some i => exact .inr ⟨i, rfl⟩

theorem greedy_empty {n : Nat} {last : List UInt8} {a : Nat} : Greedy tk n last [[]] a ↔ Greedy tk n last [] a := by
  constructor
  · rintro ⟨i, hi, hg⟩
    obtain ⟨h1, _, _, _⟩ := idx_some tk (n + 1) n [] a i hi
    exact greedy_mono tk [] (i + 0) a (by omega) hg
  · intro hg
    refine ⟨a, ?_, hg⟩
    unfold idx
    have := hg.1
    rw [if_pos (by simp; omega)]
    simp
end

/-- A text's bytes. -/
abbrev bs (s : ByteArray) : List UInt8 := s.data.toList
theorem bs_len (s : ByteArray) : (bs s).length = s.size := by simp
theorem bs_extract (s : ByteArray) (a b : Nat) : bs (s.extract a b) = ((bs s).take b).drop a := by
  unfold bs
  simp [ByteArray.data_extract, List.extract_eq_take_drop, List.drop_take]

theorem bs_drop (s : ByteArray) (a : Nat) : bs (s.extract a s.size) = (bs s).drop a := by
  rw [bs_extract, List.take_of_length_le (by simp)]

theorem no_star_before (s : ByteArray) (i : Nat) (h : Lib.indexByte (bs s) 42 = i) : ∀ c ∈ bs (s.extract 0 i), c ≠ 42 := by
  intro c hc
  rw [bs_extract, List.drop_zero] at hc
  obtain ⟨k, hk, rfl⟩ := List.getElem_of_mem hc
  rw [List.getElem_take]
  intro e
  have hk' : k < i := by simp at hk; omega
  have hl : k < (bs s).length := by simp at hk ⊢; omega
  exact (Lib.indexByte_some h).2 k hk' (by rw [List.getElem?_eq_getElem hl, e])
theorem no_star (s : ByteArray) (h : Lib.indexByte (bs s) 42 < 0) : ∀ c ∈ bs s, c ≠ 42 := by
  intro c hc e
  have h1 := Lib.indexByte_ge (bs s) 42
  obtain ⟨k, hk, hx⟩ := List.getElem_of_mem hc
  have h2 : Lib.indexByte (bs s) 42 = -1 := by omega
  exact Lib.indexByte_none h2 k (by rw [List.getElem?_eq_getElem hk, hx, e])
theorem split_at (s : ByteArray) (i : Nat) (h : Lib.indexByte (bs s) 42 = i) : bs s = bs (s.extract 0 i) ++ 42 :: bs (s.extract (i + 1) s.size) := by
  have h1 := (Lib.indexByte_some h).1
  obtain ⟨hl, he⟩ := List.getElem?_eq_some_iff.1 h1
  rw [bs_extract, bs_drop, List.drop_zero, ← he, List.getElem_cons_drop, List.take_append_drop]

theorem tail_parts (last : List UInt8) : ∀ (f : Nat) (m : ByteArray), m.size ≤ f → tailP last ((parts m).map bs) = bs m ++ 42 :: last
  | f, m, hf => by
    by_cases h : Lib.indexByte (bs m) 42 < 0
    · rw [parts_end m h]
      rfl
    · obtain ⟨i, hi⟩ : ∃ i : Nat, Lib.indexByte (bs m) 42 = i := ⟨(Lib.indexByte (bs m) 42).toNat, by omega⟩
      have hlt := index_lt (bs m) 42
      rw [bs_len] at hlt
      rw [parts_step m i hi, List.map_cons]
      unfold tailP
      cases f with
      | zero => omega
      | succ f =>
        rw [tail_parts last f _ (by simp; omega)]
        conv => rhs; rw [split_at m i hi]
        simp
theorem parts_clean : ∀ (f : Nat) (m : ByteArray), m.size ≤ f → ∀ t ∈ (parts m).map bs, ∀ c ∈ t, c ≠ 42
  | f, m, hf => by
    by_cases h : Lib.indexByte (bs m) 42 < 0
    · rw [parts_end m h]
      intro t ht
      simp at ht
      subst ht
      exact no_star m h
    · obtain ⟨i, hi⟩ : ∃ i : Nat, Lib.indexByte (bs m) 42 = i := ⟨(Lib.indexByte (bs m) 42).toNat, by omega⟩
      have hlt := index_lt (bs m) 42
      rw [bs_len] at hlt
      rw [parts_step m i hi, List.map_cons]
      intro t ht
      rw [List.mem_cons] at ht
      rcases ht with rfl | ht
      · exact no_star_before m i hi
      · cases f with
        | zero => omega
        | succ f => exact parts_clean f _ (by simp; omega) t ht

section
variable (tk : Nat → UInt8 → Bool)

/-- No star: the whole pattern at the place 0. -/
theorem wild_plain (n : Nat) (p : ByteArray) (h : Lib.indexByte (bs p) 42 < 0) : D tk (bs p) n = (decide (p.size = n) && matchB tk n (bs p) 0) := by
  rw [Bool.eq_iff_iff, Bool.and_eq_true, decide_eq_true_iff, D_iff, M_lit tk (bs p) 0 n (no_star p h), matchB_iff, bs_len]
  constructor
  · rintro ⟨h1, h2⟩; exact ⟨by omega, by omega, h2⟩
  · rintro ⟨h1, h2, h3⟩; exact ⟨by omega, h3⟩

/-- A star: the first part at the place 0, then the greedy matcher. -/
theorem wild_star (n : Nat) (p : ByteArray) (i : Nat) (h : Lib.indexByte (bs p) 42 = i) (ts : List (List UInt8)) (last : List UInt8) (hl : ∀ c ∈ last, c ≠ 42) (hts : ∀ t ∈ ts, ∀ c ∈ t, c ≠ 42)
    (ht : ∀ a, M tk (42 :: bs (p.extract (i + 1) p.size)) a n ↔ M tk (42 :: tailP last ts) a n) :
    D tk (bs p) n = true ↔ matchB tk n (bs (p.extract 0 i)) 0 = true ∧ Greedy tk n last ts i := by
  have hlt := index_lt (bs p) 42
  rw [bs_len] at hlt
  have hz : (bs (p.extract 0 i)).length = i := by simp; omega
  rw [D_iff, split_at p i h, M_append, matchB_iff]
  constructor
  · rintro ⟨k, h1, h2⟩
    obtain ⟨rfl, h3⟩ := (M_lit tk _ 0 k (no_star_before p i h)).1 h1
    have h4 := M_le tk _ _ _ h2
    rw [ht, greedy_iff tk hl ts hts, hz, Nat.zero_add] at h2
    exact ⟨⟨h4, h3⟩, h2⟩
  · rintro ⟨⟨h1, h2⟩, h3⟩
    refine ⟨i, (M_lit tk _ 0 i (no_star_before p i h)).2 ⟨by omega, h2⟩, ?_⟩
    rw [ht, greedy_iff tk hl ts hts]
    exact h3

theorem wild_one (n : Nat) (r : ByteArray) (hn : Lib.lastIndexByte r 42 < 0) : (∀ c ∈ bs r, c ≠ 42) ∧ ∀ a, M tk (42 :: bs r) a n ↔ M tk (42 :: tailP (bs r) ((parts ⟨#[]⟩).map bs)) a n := by
  have hc : ∀ c ∈ bs r, c ≠ 42 := by
    intro c hc e
    obtain ⟨k, hk, hx⟩ := List.getElem_of_mem hc
    rcases Lib.lastIndexByte_spec r 42 with ⟨_, h⟩ | ⟨i, _, h, _⟩
    · have hk' : k < r.size := by simpa using hk
      have := h k hk'
      rw [Go.Proofs.LastIndex.byteBang r k hk', show r[k] = (bs r)[k] from rfl, hx, e] at this
      exact this rfl
    · omega
  refine ⟨hc, fun a => ?_⟩
  have hp : (parts ⟨#[]⟩).map bs = [[]] := rfl
  rw [hp]
  have e0 : (42 : UInt8) :: bs r = 42 :: tailP (bs r) [] := rfl
  rw [e0, greedy_iff tk hc [] (by simp), greedy_iff tk hc [[]] (by simp), greedy_empty]

theorem wild_more (n : Nat) (r : ByteArray) (i : Nat) (h : Lib.lastIndexByte r 42 = i) : i < r.size ∧ (∀ c ∈ bs (r.extract (i + 1) r.size), c ≠ 42) ∧ ∀ a, M tk (42 :: bs r) a n ↔ M tk (42 :: tailP (bs (r.extract (i + 1) r.size)) ((parts (r.extract 0 i)).map bs)) a n := by
  rcases Lib.lastIndexByte_spec r 42 with ⟨h', _⟩ | ⟨k, hk, h', hx, hno⟩
  · omega
  · obtain rfl : k = i := by omega
    refine ⟨hk, ?_, fun a => ?_⟩
    · intro c hc e
      rw [bs_extract] at hc
      obtain ⟨q, hq, hy⟩ := List.getElem_of_mem hc
      rw [List.getElem_drop, List.getElem_take] at hy
      have hq' : k + 1 + q < r.size := by simp at hq; omega
      have := hno (k + 1 + q) (by omega) hq'
      rw [Go.Proofs.LastIndex.byteBang r _ hq', show r[k + 1 + q] = (bs r)[k + 1 + q]'(by simpa using hq') from rfl, hy, e] at this
      exact this rfl
    · rw [tail_parts _ _ _ (Nat.le_refl _)]
      have e : bs r = bs (r.extract 0 k) ++ 42 :: bs (r.extract (k + 1) r.size) := by
        have hk' : k < (bs r).length := by simpa using hk
        have he : (bs r)[k] = 42 := by
          rw [Go.Proofs.LastIndex.byteBang r k hk, show r[k] = (bs r)[k] from rfl] at hx
          exact UInt8.toNat_inj.1 (by have : (42 : UInt8).toNat = 42 := rfl; omega)
        rw [bs_extract, bs_drop, List.drop_zero, ← he, List.getElem_cons_drop, List.take_append_drop]
      rw [← e]
end
end Go.Proofs.Qxb6613124aDoor
