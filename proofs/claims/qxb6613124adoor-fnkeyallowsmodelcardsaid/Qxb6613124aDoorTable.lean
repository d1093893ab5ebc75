/-
  THE WALK of zzGlob (59): the table of prefixes, two rows that are exchanged.
-/
import Derived.Test.Qxb6613124aDoorTakes
import Derived.Deep.OwnRows
import Derived.BigRegion
namespace Go.Proofs.Qxb6613124aDoor
open Go.RowKit

section
variable (tk : Nat → UInt8 → Bool)
open Classical in
/-- The table's cell: the prefix p can end at the place j. -/
noncomputable def D (p : List UInt8) (j : Nat) : Bool := decide (M tk p 0 j)

open Classical in
theorem D_iff (p : List UInt8) (j : Nat) : D tk p j = true ↔ M tk p 0 j := by
  unfold D
  exact decide_eq_true_iff

theorem D_nil (j : Nat) : D tk [] j = (j == 0) := by
  rw [Bool.eq_iff_iff, D_iff, beq_iff_eq]
  exact ⟨fun h => (show (0 : Nat) = j from h).symm, fun h => (show (0 : Nat) = j from h.symm)⟩
theorem D_star0 (p : List UInt8) : D tk (p ++ [42]) 0 = D tk p 0 := by
  rw [Bool.eq_iff_iff, D_iff, D_iff, M_snoc, if_pos rfl]
  constructor
  · rintro ⟨k, h1, h2⟩
    have : k = 0 := by omega
    subst this; exact h2
  · intro h; exact ⟨0, Nat.le_refl _, h⟩
theorem D_star (p : List UInt8) (j : Nat) : D tk (p ++ [42]) (j + 1) = (D tk p (j + 1) || D tk (p ++ [42]) j) := by
  rw [Bool.eq_iff_iff, Bool.or_eq_true, D_iff, D_iff, D_iff, M_snoc, if_pos rfl, M_snoc, if_pos rfl]
  constructor
  · rintro ⟨k, h1, h2⟩
    by_cases e : k = j + 1
    · subst e; exact .inl h2
    · exact .inr ⟨k, by omega, h2⟩
  · rintro (h | ⟨k, h1, h2⟩)
    · exact ⟨j + 1, Nat.le_refl _, h⟩
    · exact ⟨k, by omega, h2⟩
theorem D_lit0 (p : List UInt8) (c : UInt8) (hc : c ≠ 42) : D tk (p ++ [c]) 0 = false := by
  rw [Bool.eq_false_iff, Ne, D_iff, M_snoc, if_neg hc]
  rintro ⟨h, _⟩
  omega
theorem D_lit (p : List UInt8) (c : UInt8) (hc : c ≠ 42) (j : Nat) : D tk (p ++ [c]) (j + 1) = (D tk p j && tk j c) := by
  rw [Bool.eq_iff_iff, Bool.and_eq_true, D_iff, D_iff, M_snoc, if_neg hc]
  constructor
  · rintro ⟨_, h2, h3⟩; exact ⟨h2, h3⟩
  · rintro ⟨h2, h3⟩; exact ⟨by omega, h2, h3⟩
end

theorem info4 : (Tryd.prog.info? 4).map (fun i => (i.zero, i.size, i.bytes)) = some (some (.bool false), 1, 1) := by kernel_rfl

theorem make_bools (n : Nat) (h : n ≤ 4194304) (w : World) :
    (Instr.makeSlice 117 (.int .i64 n) (.int .i64 n)).run Tryd.prog w = .ok (.slice (some ⟨w.heap.size, 0, none⟩) n n) (w.alloc (.cells (madeCells #[.bool false] n) 4)) := by
  obtain ⟨i, hi, hz0, hz1, hz2⟩ := info_parts info4
  exact run_make_row 117 4 i (.bool false) Tryd.underlying117 hi hz0 hz1 rfl .i64 .i64 n (by rw [hz2]; omega) (by omega) w

theorem take_snoc (s : ByteArray) (k : Nat) (h : k < s.size) : s.data.toList.take (k + 1) = s.data.toList.take k ++ [s[k]] := by
  rw [List.take_succ_eq_append_getElem (by simpa using h)]; rfl
theorem take_all (s : ByteArray) : s.data.toList.take s.size = s.data.toList := List.take_of_length_le (by simp)

/-- The row x is the table's row of the prefix p, in its cells below m. -/
def RowD (tk : Nat → UInt8 → Bool) (w : World) (x n : Nat) (p : List UInt8) (m : Nat) : Prop := ∃ f, w.rowIs x 4 (n + 1) f ∧ ∀ j, j < m → j ≤ n → f j = .bool (D tk p j)

theorem RowD.start (tk : Nat → UInt8 → Bool) (w : World) (n : Nat) : RowD tk (((w.alloc (.cells (madeCells #[.bool false] (n + 1)) 4)).setCell ⟨w.heap.size, 0, none⟩ (.bool true)).alloc (.cells (madeCells #[.bool false] (n + 1)) 4)) w.heap.size n [] (n + 1) := by
  refine ⟨_, ((World.rowIs_made w (.bool false) (n + 1) 4).set 0 (.bool true)).alloc _, fun j _ _ => ?_⟩
  rw [D_nil]
  by_cases e : j = 0
  · subst e; rfl
  · simp [e]
theorem RowD.fresh (tk : Nat → UInt8 → Bool) (w : World) (n : Nat) (p : List UInt8) : RowD tk (((w.alloc (.cells (madeCells #[.bool false] (n + 1)) 4)).setCell ⟨w.heap.size, 0, none⟩ (.bool true)).alloc (.cells (madeCells #[.bool false] (n + 1)) 4)) (w.heap.size + 1) n p 0 := by
  have := World.rowIs_made ((w.alloc (.cells (madeCells #[.bool false] (n + 1)) 4)).setCell ⟨w.heap.size, 0, none⟩ (.bool true)) (.bool false) (n + 1) 4
  rw [World.size_setCell, World.size_alloc] at this
  exact ⟨_, this, fun j h => by omega⟩
theorem RowD.cell {tk : Nat → UInt8 → Bool} {w : World} {x n : Nat} {p : List UInt8} {m : Nat} (h : RowD tk w x n p m) {j : Nat} (hj : j < m) (hn : j ≤ n) : w.cell? ⟨x, j, none⟩ = some (.bool (D tk p j)) := by
  obtain ⟨f, hf, he⟩ := h
  rw [← he j hj hn]
  exact hf.cell (by omega)
theorem RowD.any {tk : Nat → UInt8 → Bool} {w : World} {x n : Nat} {p : List UInt8} {m : Nat} (h : RowD tk w x n p m) {j : Nat} (hn : j ≤ n) : ∃ v, w.cell? ⟨x, j, none⟩ = some v := by
  obtain ⟨f, hf, he⟩ := h
  exact ⟨_, hf.cell (by omega)⟩
theorem RowD.frozen {tk : Nat → UInt8 → Bool} {w : World} {x n : Nat} {p : List UInt8} {m : Nat} (h : RowD tk w x n p m) (j : Nat) : w.frozen? ⟨x, j, none⟩ = false := by
  obtain ⟨f, hf, he⟩ := h
  exact hf.frozen j
theorem RowD.less {tk : Nat → UInt8 → Bool} {w : World} {x n : Nat} {p q : List UInt8} {m : Nat} (h : RowD tk w x n p m) : RowD tk w x n q 0 := by
  obtain ⟨f, hf, he⟩ := h
  exact ⟨f, hf, fun j hj => by omega⟩
theorem RowD.step {tk : Nat → UInt8 → Bool} {w : World} {x n : Nat} {p : List UInt8} {m : Nat} (h : RowD tk w x n p m) {b : Bool} (hb : D tk p m = b) : RowD tk (w.setCell ⟨x, m, none⟩ (.bool b)) x n p (m + 1) := by
  obtain ⟨f, hf, he⟩ := h
  refine ⟨_, hf.set m _, fun j hj hn => ?_⟩
  by_cases e : j = m
  · subst e; simp [hb]
  · rw [if_neg e]; exact he j (by omega) hn
theorem RowD.other {tk : Nat → UInt8 → Bool} {w : World} {x y n : Nat} {p : List UInt8} {m : Nat} (h : RowD tk w x n p m) (hne : x ≠ y) (j : Nat) (v : Value) : RowD tk (w.setCell ⟨y, j, none⟩ v) x n p m := by
  obtain ⟨f, hf, he⟩ := h
  exact ⟨f, hf.setOther hne v, he⟩

set_option maxHeartbeats 800000 in
set_option maxRecDepth 100000 in
theorem glob (act : Bool) (pat text digits : ByteArray) (any : Bool) (L : Nat) (w : World) (hp : pat.size ≤ 1048576) (ht : text.size ≤ 1048576) (hd : digits.size ≤ 1048576) (hL : L ≤ 1048576) (ha : act = true → L = 0) :
    Calls Tryd.prog 59 #[.string pat, .bool act, .string text, .int .i64 L, .string digits, .bool any] w fun e w' => e = .returned (.bool (D (takeB act text.data.toList digits.data.toList any) pat.data.toList (text.size + L))) ∧ Below w.heap.size w w' := by
  obtain ⟨n, hn⟩ : ∃ n : Nat, text.size + L = n := ⟨_, rfl⟩
  have hnI : ((text.size : Int) + L) = n := by omega
  have hN : n ≤ 2097152 := by omega
  have hmk := fun w => make_bools (n + 1) (by omega) w
  rw [show (((n + 1 : Nat) : Int)) = (n : Int) + 1 by omega] at hmk
  have hc0 := (((World.rowIs_made w (.bool false) (n + 1) 4).alloc (.cells (madeCells #[.bool false] (n + 1)) 4)).cell (i := 0) (by omega))
  have hz0 := (((World.rowIs_made w (.bool false) (n + 1) 4).alloc (.cells (madeCells #[.bool false] (n + 1)) 4)).frozen 0)
  obtain ⟨A, hA⟩ : ∃ A, Obj.cells (madeCells #[.bool false] (n + 1)) 4 = A := ⟨_, rfl⟩
  rw [hA] at hmk hc0 hz0
  have HA := hid hA
  clear hA
  rw [hn]
  have HT := hid (show ∀ i, i < n → act = true → i < text.size by intro i h1 h2; have := ha h2; omega)
  clear ha
  obtain ⟨tk, htk⟩ : ∃ tk, takeB act text.data.toList digits.data.toList any = tk := ⟨_, rfl⟩
  rw [htk]
  have HTK := hid htk
  clear htk
  go_enter Tryd.func59, Tryd.ntmps59
  go_wp2
  go_loopw [14, 15, 16] (fun s14 s15 s16 wr => ∃ (k x y : Nat), k ≤ pat.size ∧ s16 = .int .i64 k ∧ s14 = .slice (some ⟨x, 0, none⟩) (n + 1 : Nat) (n + 1 : Nat) ∧ s15 = .slice (some ⟨y, 0, none⟩) (n + 1 : Nat) (n + 1 : Nat) ∧ Hid (x ≠ y ∧ w.heap.size ≤ x ∧ w.heap.size ≤ y ∧ RowD tk wr x n (pat.data.toList.take k) (n + 1) ∧ RowD tk wr y n [] 0 ∧ Below w.heap.size w wr)) (fun _ _ i _ => pat.size - (intOf i).toNat)
  case atStart =>
    refine ⟨0, w.heap.size, w.heap.size + 1, Nat.zero_le _, rfl, by simp, by simp, (?_ : _ ∧ _)⟩
    have HA := HA.out
    subst HA
    exact ⟨by omega, Nat.le_refl _, by omega, by rw [List.take_zero]; exact RowD.start tk w n, RowD.fresh tk w n [], (((Below.refl _ _).alloc (Nat.le_refl _) _).setCell (p := ⟨w.heap.size, 0, none⟩) (Nat.le_refl _) _).alloc (by simp) _⟩
  case round =>
    obtain ⟨k, x, y, hk, rfl, rfl, rfl, hrel⟩ := hrel
    by_cases hlt : k < pat.size
    · obtain ⟨hxy, hx, hy, hrx, hry, hB⟩ := hrel.out
      have hts := take_snoc pat k hlt
      obtain ⟨c, hc⟩ : ∃ c : UInt8, pat[k]'(by omega) = c := ⟨_, rfl⟩
      rw [hc] at hts
      obtain ⟨p, hpp⟩ : ∃ p, pat.data.toList.take k = p := ⟨_, rfl⟩
      rw [hpp] at hts hrx
      have HTS := hid hts
      clear hts hpp hmk hc0 hz0 HA hrel
      have hc0 := hrx.cell (j := 0) (by omega) (by omega)
      obtain ⟨v0, hv0⟩ := hry.any (j := 0) (by omega)
      have hz0 := hry.frozen 0
      by_cases h42 : c = 42
      · subst h42
        have hs1 := hid ((hry.less (q := p ++ [42])).step (D_star0 tk p))
        have hs2 := hid (hrx.other hxy 0 (.bool (D tk p 0)))
        have hs3 := hid (hB.setCell (p := ⟨y, 0, none⟩) hy (.bool (D tk p 0)))
        clear hry hrx hB
        go_wp2
        go_loopw [18] (fun sj wq => ∃ j : Nat, 1 ≤ j ∧ j ≤ n + 1 ∧ sj = .int .i64 j ∧ Hid (RowD tk wq x n p (n + 1) ∧ RowD tk wq y n (p ++ [42]) j ∧ Below w.heap.size w wq)) (fun i _ => n + 1 - (intOf i).toNat)
        case atStart => exact ⟨1, Nat.le_refl _, by omega, rfl, (⟨hs2.out, hs1.out, hs3.out⟩ : _ ∧ _)⟩
        case round =>
          clear hs1 hs2 hs3 hc0 hv0 hz0
          obtain ⟨j, hj1, hjn, rfl, hrel⟩ := hrel
          obtain ⟨hrx, hry, hB⟩ := hrel.out
          clear hrel
          by_cases hjlt : j ≤ n
          · obtain ⟨j, rfl⟩ : ∃ q, j = q + 1 := ⟨j - 1, by omega⟩
            have e1 := hrx.cell (j := j + 1) (by omega) hjlt
            have e2 := hry.cell (j := j) (by omega) (by omega)
            obtain ⟨v1, e3⟩ := hry.any (j := j + 1) hjlt
            have z1 := hry.frozen (j + 1)
            have hs1 := hid (hry.step (D_star tk p j))
            have hs2 := hid (hrx.other hxy (j + 1) (.bool (D tk p (j + 1) || D tk (p ++ [42]) j)))
            have hs3 := hid (hB.setCell (p := ⟨y, j + 1, none⟩) hy (.bool (D tk p (j + 1) || D tk (p ++ [42]) j)))
            clear hry hrx hB
            generalize D tk p (j + 1) = d1 at *
            generalize D tk (p ++ [42]) j = d2 at *
            cases d1
            all_goals
              go_wp2
              refine ⟨⟨j + 1 + 1, by omega, by omega, by go_num, ?_⟩, by simp [intOf]; omega⟩
              have h : RowD tk _ x n p (n + 1) ∧ RowD tk _ y n (p ++ [42]) (j + 1 + 1) ∧ Below w.heap.size w _ := ⟨hs2.out, hs1.out, hs3.out⟩
              simp only [Bool.false_or, Bool.true_or] at h
              exact h
          · obtain rfl : j = n + 1 := by omega
            have h1 := hid hrx
            have h2 := hid hry
            have h3 := hid hB
            clear hrx hry hB
            go_wp2
            refine ⟨⟨k + 1, y, x, by omega, by go_num, rfl, rfl, ?_⟩, by simp [intOf]; omega⟩
            have h : y ≠ x ∧ w.heap.size ≤ y ∧ w.heap.size ≤ x ∧ RowD tk _ y n (pat.data.toList.take (k + 1)) (n + 1) ∧ RowD tk _ x n [] 0 ∧ Below w.heap.size w _ := ⟨fun e => hxy e.symm, hy, hx, by rw [HTS.out]; exact h2.out, h1.out.less, h3.out⟩
            exact h
      · have h42i : ((c.toNat : Int) == 42) = false := beq_eq_false_iff_ne.2 (fun e => h42 (UInt8.toNat_inj.1 (by have : (42 : UInt8).toNat = 42 := rfl; omega)))
        have hs1 := hid ((hry.less (q := p ++ [c])).step (D_lit0 tk p c h42))
        have hs2 := hid (hrx.other hxy 0 (.bool false))
        have hs3 := hid (hB.setCell (p := ⟨y, 0, none⟩) hy (.bool false))
        clear hry hrx hB
        go_wp2
        go_loopw [19] (fun sj wq => ∃ j : Nat, 1 ≤ j ∧ j ≤ n + 1 ∧ sj = .int .i64 j ∧ Hid (RowD tk wq x n p (n + 1) ∧ RowD tk wq y n (p ++ [c]) j ∧ Below w.heap.size w wq)) (fun i _ => n + 1 - (intOf i).toNat)
        case atStart => exact ⟨1, Nat.le_refl _, by omega, rfl, (⟨hs2.out, hs1.out, hs3.out⟩ : _ ∧ _)⟩
        case round =>
          clear hs1 hs2 hs3 hc0 hv0 hz0
          obtain ⟨j, hj1, hjn, rfl, hrel⟩ := hrel
          obtain ⟨hrx, hry, hB⟩ := hrel.out
          clear hrel
          by_cases hjlt : j ≤ n
          · obtain ⟨j, rfl⟩ : ∃ q, j = q + 1 := ⟨j - 1, by omega⟩
            have e1 := hrx.cell (j := j) (by omega) (by omega)
            obtain ⟨v1, e3⟩ := hry.any (j := j + 1) hjlt
            have z1 := hry.frozen (j + 1)
            have hs1 := hid (hry.step (D_lit tk p c h42 j))
            have hs2 := hid (hrx.other hxy (j + 1) (.bool (D tk p j && tk j c)))
            have hs3 := hid (hB.setCell (p := ⟨y, j + 1, none⟩) hy (.bool (D tk p j && tk j c)))
            clear hry hrx hB
            generalize D tk p j = d1 at *
            have hat := HT.out j (by omega)
            have HTc : Hid (takeB act text.data.toList digits.data.toList any j c = tk j c) := congrFun (congrFun HTK.out j) c
            cases d1
            · go_wp2
              refine ⟨⟨j + 1 + 1, by omega, by omega, by go_num, ?_⟩, by simp [intOf]; omega⟩
              have h : RowD tk _ x n p (n + 1) ∧ RowD tk _ y n (p ++ [c]) (j + 1 + 1) ∧ Below w.heap.size w _ := ⟨hs2.out, hs1.out, hs3.out⟩
              simp only [Bool.false_and] at h
              exact h
            · go_wp2_with (go_at_call 69; refine (takes act text digits any j c _ hd hat).mono ?_; rintro e w1 ⟨rfl, rfl⟩; rw [HTc.out])
              refine ⟨⟨j + 1 + 1, by omega, by omega, by go_num, ?_⟩, by simp [intOf]; omega⟩
              have h : RowD tk _ x n p (n + 1) ∧ RowD tk _ y n (p ++ [c]) (j + 1 + 1) ∧ Below w.heap.size w _ := ⟨hs2.out, hs1.out, hs3.out⟩
              simp only [Bool.true_and] at h
              exact h
          · obtain rfl : j = n + 1 := by omega
            have h1 := hid hrx
            have h2 := hid hry
            have h3 := hid hB
            clear hrx hry hB
            go_wp2
            refine ⟨⟨k + 1, y, x, by omega, by go_num, rfl, rfl, ?_⟩, by simp [intOf]; omega⟩
            have h : y ≠ x ∧ w.heap.size ≤ y ∧ w.heap.size ≤ x ∧ RowD tk _ y n (pat.data.toList.take (k + 1)) (n + 1) ∧ RowD tk _ x n [] 0 ∧ Below w.heap.size w _ := ⟨fun e => hxy e.symm, hy, hx, by rw [HTS.out]; exact h2.out, h1.out.less, h3.out⟩
            exact h
    · obtain ⟨_, _, _, hrx, _, hB⟩ := hrel.out
      obtain rfl : k = pat.size := by omega
      rw [take_all] at hrx
      have hcn := hrx.cell (j := n) (by omega) (by omega)
      clear hrx hrel
      have HB := hid hB
      clear hB
      go_wp2
      go_ret
      exact ⟨rfl, HB.out⟩
end Go.Proofs.Qxb6613124aDoor
