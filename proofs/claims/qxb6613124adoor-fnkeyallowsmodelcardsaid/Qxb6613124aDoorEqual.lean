/-
  THE PLAIN LAW: KeyAllows over the clones answers as the model over the originals.
-/
import Derived.Test.Qxb6613124aDoorZmodel
namespace Go.Proofs.Qxb6613124aDoor
open Go.RowKit

theorem exact_eq (s : ByteArray) (L : Nat) (g x : ByteArray) : exactB s L g false x = ((L == 0) && (x.toList == s.toList)) := by
  rw [Bool.eq_iff_iff, Bool.and_eq_true, beq_iff_eq, beq_iff_eq, Lib.toList_data, Lib.toList_data]
  unfold exactB
  rw [Bool.and_eq_true, decide_eq_true_iff, matchB_iff]
  have tkF : ∀ q c, s.size ≤ q → takeB false (bs s) (bs g) false q c = false := by
    intro q c h
    unfold takeB
    rw [if_neg (by simp), if_neg (by rw [bs_len]; omega)]
    rfl
  have tkT : ∀ q c (h : q < s.size), takeB false (bs s) (bs g) false q c = (s[q] == c) := by
    intro q c h
    unfold takeB
    rw [if_neg (by simp), if_pos (by rw [bs_len]; omega), getD_at s q h]
  constructor
  · rintro ⟨hz, _, hlit⟩
    have hL : L = 0 := by
      rcases Nat.eq_zero_or_pos L with h | h
      · exact h
      · have := hlit s.size (by rw [bs_len]; omega)
        rw [Nat.zero_add, tkF _ _ (Nat.le_refl _)] at this
        cases this
    refine ⟨hL, ?_⟩
    apply List.ext_getElem
    · simp; omega
    · intro q h1 h2
      have hq : q < s.size := by simpa using h2
      have := hlit q h1
      rw [Nat.zero_add, tkT q _ hq, beq_iff_eq] at this
      exact this.symm
  · rintro ⟨rfl, he⟩
    have hz : x.size = s.size := by
      have := congrArg List.length he
      simpa using this
    refine ⟨by omega, by rw [bs_len]; omega, fun q hq => ?_⟩
    have hqs : q < s.size := by rw [bs_len] at hq; omega
    rw [Nat.zero_add, tkT q _ hqs, beq_iff_eq]
    have : (bs x)[q] = (bs s)[q]'(by rw [bs_len]; exact hqs) := by
      have h : (bs x)[q]? = (bs s)[q]? := congrArg (fun l : List UInt8 => l[q]?) he
      rw [List.getElem?_eq_getElem hq, List.getElem?_eq_getElem (by simpa using hqs)] at h
      exact Option.some.inj h
    rw [this]
    rfl

/-- The same statement, wherever it lies. -/
structure SameS (a b : SV) : Prop where
  deny : a.deny = b.deny
  acts : a.acts = b.acts
  res : a.res = b.res
  prins : a.prins = b.prins
  nil : a.pp.isNone = b.pp.isNone
  conds : a.conds.map (·.c) = b.conds.map (·.c)

theorem any_conds (f : Int → Option (List UInt8)) {l m : List CV} (h : l.map (·.c) = m.map (·.c)) : (l.any fun v => !holdsB f v.c) = m.any fun v => !holdsB f v.c := by
  have e : ∀ l : List CV, (l.any fun v => !holdsB f v.c) = (l.map (·.c)).any fun c => !holdsB f c := fun l => by rw [List.any_map]; rfl
  rw [e, e, h]

theorem cover_key {f : Int → Option (List UInt8)} {r : Rq} {deny : Bool} {who : List ByteArray} {a b : SV} (h : SameS a b) : coverB f r deny false who a = zkeyB f r deny who b := by
  unfold coverB zkeyB zcovB
  have hm : matB r deny false = zresB r deny false := by
    funext x
    unfold matB zresB
    rw [if_neg (by simp), if_neg (by simp)]
  rw [h.deny, h.acts, h.res, h.prins, h.nil, any_conds f h.conds, hm]
  cases (b.deny == deny) <;> cases (b.pp.isNone || b.prins.any (oneOf who)) <;> simp

theorem cover_id {f : Int → Option (List UInt8)} {r : Rq} {deny : Bool} {a b : SV} (h : SameS a b) (hn : b.pp.isNone = true) : coverB f r deny (!deny) [] a = zidB f r deny b := by
  unfold coverB zidB zcovB
  have hm : matB r deny (!deny) = zresB r deny (!deny) := by
    funext x
    unfold matB zresB
    cases deny with
    | true => rw [if_neg (by simp), if_neg (by simp)]
    | false => rw [if_pos (by simp), if_pos (by simp), exact_eq]
  rw [h.deny, h.acts, h.res, h.nil, any_conds f h.conds, hm, hn]
  simp

theorem any_same {P Q : SV → Bool} : ∀ {l m : List SV}, l.length = m.length → (∀ (j : Nat) (h1 : j < l.length) (h2 : j < m.length), P l[j] = Q m[j]) → l.any P = m.any Q
  | [], [], _, _ => rfl
  | x :: l, y :: m, hl, h => by
    rw [List.any_cons, List.any_cons, show P x = Q y from h 0 (by simp) (by simp), any_same (l := l) (m := m) (by simpa using hl) (fun j h1 h2 => h (j + 1) (by simp; omega) (by simp; omega))]
  | [], y :: m, hl, _ => by simp at hl
  | x :: l, [], hl, _ => by simp at hl

/-- **KeyAllows over the clones answers as the model over the originals.** -/
theorem allows_eq {f : Int → Option (List UInt8)} {r : Rq} {ks gs ks' gs' : List SV} (hk : ks.length = ks'.length) (hg : gs.length = gs'.length) (hks : ∀ (j : Nat) (h1 : j < ks.length) (h2 : j < ks'.length), SameS ks[j] ks'[j]) (hgs : ∀ (j : Nat) (h1 : j < gs.length) (h2 : j < gs'.length), SameS gs[j] gs'[j]) (hn : ∀ s ∈ gs', s.pp.isNone = true) :
    allowsB f r ks gs = zallowsB f r ks' gs' := by
  have K : ∀ deny who, ks.any (coverB f r deny false who) = ks'.any (zkeyB f r deny who) := fun deny who => any_same hk (fun j h1 h2 => cover_key (hks j h1 h2))
  have G : ∀ deny, gs.any (coverB f r deny (!deny) []) = gs'.any (zidB f r deny) := fun deny => any_same hg (fun j h1 h2 => cover_id (hgs j h1 h2) (hn _ (List.getElem_mem h2)))
  have G1 := G true
  have G2 := G false
  simp only [Bool.not_true, Bool.not_false] at G1 G2
  unfold allowsB zallowsB
  rw [K, K, K, G1, G2]
end Go.Proofs.Qxb6613124aDoor
