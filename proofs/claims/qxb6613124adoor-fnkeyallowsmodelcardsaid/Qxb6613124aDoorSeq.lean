/-
  THE WALK of the closure of strings.SplitSeq at "*" (66): the iterator keeps its rest in a cell of its own.
-/
import Derived.Test.Qxb6613124aDoorSplit
namespace Go.Proofs.Qxb6613124aDoor
open Go.RowKit Go.Shelf
attribute [local go_sem] Oper.semAt_some

/-- The parts between the stars. -/
def partsN : Nat → ByteArray → List ByteArray
  | 0, s => [s]
  | f + 1, s => if Lib.indexByte s.data.toList 42 < 0 then [s] else s.extract 0 (Lib.indexByte s.data.toList 42).toNat :: partsN f (s.extract ((Lib.indexByte s.data.toList 42).toNat + 1) s.size)
def parts (s : ByteArray) : List ByteArray := partsN s.size s

theorem partsN_eq : ∀ (f f' : Nat) (s : ByteArray), s.size ≤ f → s.size ≤ f' → partsN f s = partsN f' s
  | 0, 0, s, _, _ => rfl
  | 0, f' + 1, s, h, _ => by
    have hlt := index_lt s.data.toList 42
    have hz : s.data.toList.length = s.size := by simp
    unfold partsN
    rw [if_pos (by omega)]
  | f + 1, 0, s, _, h => by
    have hlt := index_lt s.data.toList 42
    have hz : s.data.toList.length = s.size := by simp
    unfold partsN
    rw [if_pos (by omega)]
  | f + 1, f' + 1, s, h, h' => by
    have hlt := index_lt s.data.toList 42
    have hz : s.data.toList.length = s.size := by simp
    unfold partsN
    by_cases hn : Lib.indexByte s.data.toList 42 < 0
    · rw [if_pos hn, if_pos hn]
    · rw [if_neg hn, if_neg hn, partsN_eq f f' _ (by simp; omega) (by simp; omega)]

theorem parts_end (s : ByteArray) (h : Lib.indexByte s.data.toList 42 < 0) : parts s = [s] := by
  unfold parts
  cases hz : s.size with
  | zero => rfl
  | succ f => unfold partsN; rw [if_pos h]
theorem parts_step (s : ByteArray) (i : Nat) (h : Lib.indexByte s.data.toList 42 = i) : parts s = s.extract 0 i :: parts (s.extract (i + 1) s.size) := by
  have hlt := index_lt s.data.toList 42
  have hz : s.data.toList.length = s.size := by simp
  unfold parts
  rw [partsN_eq s.size (s.size + 1) s (Nat.le_refl _) (by omega)]
  conv => lhs; unfold partsN
  rw [if_neg (by omega), h, Int.toNat_natCast]
  rw [partsN_eq s.size _ _ (by simp) (Nat.le_refl _)]

theorem parts_size : ∀ (f : Nat) (m : ByteArray), m.size ≤ f → ∀ x ∈ parts m, x.size ≤ m.size
  | f, m, hf => by
    by_cases h : Lib.indexByte m.data.toList 42 < 0
    · rw [parts_end m h]
      intro x hx
      simp at hx
      subst hx
      exact Nat.le_refl _
    · obtain ⟨i, hi⟩ : ∃ i : Nat, Lib.indexByte m.data.toList 42 = i := ⟨(Lib.indexByte m.data.toList 42).toNat, by omega⟩
      have hlt := index_lt m.data.toList 42
      have hz : m.data.toList.length = m.size := by simp
      rw [parts_step m i hi]
      intro x hx
      rw [List.mem_cons] at hx
      rcases hx with rfl | hx
      · simp
        omega
      · cases f with
        | zero => omega
        | succ f =>
          have := parts_size f _ (by simp; omega) x hx
          simp at this
          omega

/-- The closure's three cells: its rest, the separator, how many of the separator's bytes are kept. -/
def SplitAt (b : Nat) (s : ByteArray) (W : World) : Prop := W.rowIs b 9 1 (fun _ => .string s) ∧ W.rowIs (b + 1) 9 1 (fun _ => .string ⟨#[42]⟩) ∧ W.rowIs (b + 2) 3 1 (fun _ => .int .i64 0)
theorem SplitAt.kept {b : Nat} {s : ByteArray} {W W' : World} (h : SplitAt b s W) {m1 m2 : Nat} (hk : KeepsRun m1 m2 W W') (h1 : m1 ≤ b) (h2 : b + 2 < m2) : SplitAt b s W' :=
  ⟨h.1.of_block (hk b h1 (by omega)), h.2.1.of_block (hk (b + 1) (by omega) (by omega)), h.2.2.of_block (hk (b + 2) (by omega) (by omega))⟩
theorem SplitAt.set {b : Nat} {s : ByteArray} {W : World} (h : SplitAt b s W) (t : ByteArray) : SplitAt b t (W.setCell ⟨b, 0, none⟩ (.string t)) :=
  ⟨(h.1.set 0 (.string t)).congr (fun i hi => by rw [if_pos (by omega)]), h.2.1.setOther (by simp) _, h.2.2.setOther (by simp) _⟩
theorem SplitAt.cells {b : Nat} {s : ByteArray} {W : World} (h : SplitAt b s W) : W.cell? ⟨b, 0, none⟩ = some (.string s) ∧ W.frozen? ⟨b, 0, none⟩ = false ∧ W.cell? ⟨b + 1, 0, none⟩ = some (.string ⟨#[42]⟩) ∧ W.cell? ⟨b + 2, 0, none⟩ = some (.int .i64 0) :=
  ⟨h.1.cell (by omega), h.1.frozen 0, h.2.1.cell (by omega), h.2.2.cell (by omega)⟩

/-- How much of the text is left, read off the world. -/
def leftAt (b : Nat) (W : World) : Nat := match W.cell? ⟨b, 0, none⟩ with | some (.string s) => s.size | _ => 0
theorem leftAt_eq {b : Nat} {s : ByteArray} {W : World} (h : SplitAt b s W) : leftAt b W = s.size := by
  unfold leftAt
  rw [h.cells.1]

theorem wide_depth {p : Prop} : Fence.wide.depth.isSome = true → p := fun h => by cases h

set_option maxHeartbeats 800000 in
set_option maxRecDepth 100000 in
theorem split_seq (n : Nat) (b : Nat) (s : ByteArray) (m1 m2 : Nat) (h1 : m1 ≤ b) (h2 : b + 2 < m2) (hs : s.size ≤ 1048576) :
    StateSeq Fence.wide n Tryd.prog 66 #[.pointer (some ⟨b + 1, 0, none⟩), .pointer (some ⟨b, 0, none⟩), .pointer (some ⟨b + 2, 0, none⟩)] (fun x : ByteArray => #[Value.string x]) m1 m2 b (SplitAt b s) (parts s) := fun l J Jx W hJs hY hT h0 => by
  refine callsIn_of_wp Tryd.func66 rfl trivial ?_ rfl
  simp only [Tryd.ntmps66, List.size_toArray, List.length_cons, List.length_nil, Nat.reduceAdd, Nat.reduceSub, Array.replicate_succ, Array.replicate_zero, List.push_toArray, List.append_toArray, List.nil_append, List.cons_append]
  obtain ⟨cs, cf, ce, cv⟩ := hT.cells
  gi_wp2
  clear cs cf ce cv
  gi_loopw [7] (fun _ wr => ∃ (pre : List ByteArray) (rest : ByteArray), parts s = pre ++ parts rest ∧ rest.size ≤ 1048576 ∧ SplitAt b rest wr ∧ J pre wr) (fun _ wr => leftAt b wr)
  case atStart => exact ⟨[], s, rfl, hs, hT, h0⟩
  case round =>
    obtain ⟨pre, rest, hp, hr, hS, hj⟩ := hrel
    obtain ⟨cs, cf, ce, cv⟩ := hS.cells
    have HI := hid (st_index rest)
    have hlt := index_lt rest.data.toList 42
    have hz : rest.data.toList.length = rest.size := by simp
    rw [hz] at hlt
    by_cases hn : Lib.indexByte rest.data.toList 42 < 0
    · have hpe := hid (hp.trans (by rw [parts_end rest hn]))
      obtain ⟨i, hi⟩ : ∃ i, Lib.indexByte rest.data.toList 42 = i := ⟨_, rfl⟩
      rw [hi] at HI hn
      clear hi hlt hz hp
      obtain ⟨fn, tmps, assign, body, hy, hR⟩ := hY pre rest wr ⟨[], by rw [hpe.out]; simp⟩ hj
      gi_wp2_with (refine ⟨trivial, wide_depth, ?_⟩; gi_at_call 68; refine (callsIn_wide.2 (HI.out _)).mono ?_; rintro e w' ⟨rfl, rfl⟩)
      refine ⟨wide_depth, hR.mono ?_⟩
      rintro e W3 (⟨rfl, hJ3, hk3⟩ | ⟨rfl, hJx3⟩)
      · gi_wp2
        go_end0
        exact ⟨⟨_, rfl⟩, .inl (by rw [hpe.out]; exact hJ3)⟩
      · gi_wp2
        go_end0
        exact ⟨⟨_, rfl⟩, .inr ⟨_, ⟨[], by rw [hpe.out]; simp⟩, hJx3⟩⟩
    · obtain ⟨i, hi⟩ : ∃ i : Nat, Lib.indexByte rest.data.toList 42 = i := ⟨(Lib.indexByte rest.data.toList 42).toNat, by omega⟩
      have hpe := hid (hp.trans (by rw [parts_step rest i hi]))
      rw [hi] at HI hlt
      clear hi hz hp hn
      obtain ⟨fn, tmps, assign, body, hy, hR⟩ := hY pre (rest.extract 0 i) wr ⟨parts (rest.extract (i + 1) rest.size), by rw [hpe.out]; simp⟩ hj
      gi_wp2_with (refine ⟨trivial, wide_depth, ?_⟩; gi_at_call 68; refine (callsIn_wide.2 (HI.out _)).mono ?_; rintro e w' ⟨rfl, rfl⟩)
      refine ⟨wide_depth, hR.mono ?_⟩
      rintro e W3 (⟨rfl, hJ3, hk3⟩ | ⟨rfl, hJx3⟩)
      · have hS3 := hS.kept hk3 h1 h2
        clear cs cf ce cv
        obtain ⟨cs, cf, ce, cv⟩ := hS3.cells
        gi_wp2
        go_roundw
        case rel => exact ⟨pre ++ [rest.extract 0 i], rest.extract (i + 1) rest.size, by rw [hpe.out]; simp, by simp; omega, hS3.set _, hJs _ _ _ hJ3⟩
        case measure =>
          rw [leftAt_eq (hS3.set _), leftAt_eq hS]
          simp
          omega
      · gi_wp2
        refine bodyPost_ret (results_none rfl _ _ _) rfl ?_
        exact ⟨⟨_, rfl⟩, .inr ⟨_, ⟨parts (rest.extract (i + 1) rest.size), by rw [hpe.out]; simp⟩, hJx3⟩⟩
end Go.Proofs.Qxb6613124aDoor
