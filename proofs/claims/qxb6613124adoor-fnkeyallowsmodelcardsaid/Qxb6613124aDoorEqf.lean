/-
  THE WALK of 'strings.EqualFold' (function 64) AT A TEXT OF LOWER-CASE HEXADECIMAL DIGITS AND WHATEVER FIRST ARGUMENT.
-/
import Derived.Test.Qxb6613124aDoorTable
import Derived.Deep.LoopGhost
import Derived.ScopeJumps
import Derived.WalkMore
import Derived.Laws.RangeAny
import Derived.Lib.Strings
namespace Go.Proofs.Qxb6613124aDoor
open Go.RowKit

set_option maxHeartbeats 400000 in
set_option maxRecDepth 100000 in
theorem simpleFold_ascii (r v : Nat) (w : World) (hr : r < 128) (hv : v < 65536) (hc : w.cell? ⟨1, r, none⟩ = some (.int .u16 v)) :
    Calls Tryd.prog 74 #[.int .i32 r] w fun e w' => e = .returned (.int .i32 v) ∧ w' = w := by
  go_enter Tryd.func74, Tryd.ntmps74
  go_wp2
  go_ret
  exact ⟨rfl, rfl⟩

set_option maxRecDepth 100000 in
theorem tmps_lit (t : Array Value) (h : t.size = 123) : t = #[t.getD 0 undef, t.getD 1 undef, t.getD 2 undef, t.getD 3 undef, t.getD 4 undef, t.getD 5 undef, t.getD 6 undef, t.getD 7 undef, t.getD 8 undef, t.getD 9 undef, t.getD 10 undef, t.getD 11 undef, t.getD 12 undef, t.getD 13 undef, t.getD 14 undef, t.getD 15 undef, t.getD 16 undef, t.getD 17 undef, t.getD 18 undef, t.getD 19 undef, t.getD 20 undef, t.getD 21 undef, t.getD 22 undef, t.getD 23 undef, t.getD 24 undef, t.getD 25 undef, t.getD 26 undef, t.getD 27 undef, t.getD 28 undef, t.getD 29 undef, t.getD 30 undef, t.getD 31 undef, t.getD 32 undef, t.getD 33 undef, t.getD 34 undef, t.getD 35 undef, t.getD 36 undef, t.getD 37 undef, t.getD 38 undef, t.getD 39 undef, t.getD 40 undef, t.getD 41 undef, t.getD 42 undef, t.getD 43 undef, t.getD 44 undef, t.getD 45 undef, t.getD 46 undef, t.getD 47 undef, t.getD 48 undef, t.getD 49 undef, t.getD 50 undef, t.getD 51 undef, t.getD 52 undef, t.getD 53 undef, t.getD 54 undef, t.getD 55 undef, t.getD 56 undef, t.getD 57 undef, t.getD 58 undef, t.getD 59 undef, t.getD 60 undef, t.getD 61 undef, t.getD 62 undef, t.getD 63 undef, t.getD 64 undef, t.getD 65 undef, t.getD 66 undef, t.getD 67 undef, t.getD 68 undef, t.getD 69 undef, t.getD 70 undef, t.getD 71 undef, t.getD 72 undef, t.getD 73 undef, t.getD 74 undef, t.getD 75 undef, t.getD 76 undef, t.getD 77 undef, t.getD 78 undef, t.getD 79 undef, t.getD 80 undef, t.getD 81 undef, t.getD 82 undef, t.getD 83 undef, t.getD 84 undef, t.getD 85 undef, t.getD 86 undef, t.getD 87 undef, t.getD 88 undef, t.getD 89 undef, t.getD 90 undef, t.getD 91 undef, t.getD 92 undef, t.getD 93 undef, t.getD 94 undef, t.getD 95 undef, t.getD 96 undef, t.getD 97 undef, t.getD 98 undef, t.getD 99 undef, t.getD 100 undef, t.getD 101 undef, t.getD 102 undef, t.getD 103 undef, t.getD 104 undef, t.getD 105 undef, t.getD 106 undef, t.getD 107 undef, t.getD 108 undef, t.getD 109 undef, t.getD 110 undef, t.getD 111 undef, t.getD 112 undef, t.getD 113 undef, t.getD 114 undef, t.getD 115 undef, t.getD 116 undef, t.getD 117 undef, t.getD 118 undef, t.getD 119 undef, t.getD 120 undef, t.getD 121 undef, t.getD 122 undef] := by
  have e : (#[t.getD 0 undef, t.getD 1 undef, t.getD 2 undef, t.getD 3 undef, t.getD 4 undef, t.getD 5 undef, t.getD 6 undef, t.getD 7 undef, t.getD 8 undef, t.getD 9 undef, t.getD 10 undef, t.getD 11 undef, t.getD 12 undef, t.getD 13 undef, t.getD 14 undef, t.getD 15 undef, t.getD 16 undef, t.getD 17 undef, t.getD 18 undef, t.getD 19 undef, t.getD 20 undef, t.getD 21 undef, t.getD 22 undef, t.getD 23 undef, t.getD 24 undef, t.getD 25 undef, t.getD 26 undef, t.getD 27 undef, t.getD 28 undef, t.getD 29 undef, t.getD 30 undef, t.getD 31 undef, t.getD 32 undef, t.getD 33 undef, t.getD 34 undef, t.getD 35 undef, t.getD 36 undef, t.getD 37 undef, t.getD 38 undef, t.getD 39 undef, t.getD 40 undef, t.getD 41 undef, t.getD 42 undef, t.getD 43 undef, t.getD 44 undef, t.getD 45 undef, t.getD 46 undef, t.getD 47 undef, t.getD 48 undef, t.getD 49 undef, t.getD 50 undef, t.getD 51 undef, t.getD 52 undef, t.getD 53 undef, t.getD 54 undef, t.getD 55 undef, t.getD 56 undef, t.getD 57 undef, t.getD 58 undef, t.getD 59 undef, t.getD 60 undef, t.getD 61 undef, t.getD 62 undef, t.getD 63 undef, t.getD 64 undef, t.getD 65 undef, t.getD 66 undef, t.getD 67 undef, t.getD 68 undef, t.getD 69 undef, t.getD 70 undef, t.getD 71 undef, t.getD 72 undef, t.getD 73 undef, t.getD 74 undef, t.getD 75 undef, t.getD 76 undef, t.getD 77 undef, t.getD 78 undef, t.getD 79 undef, t.getD 80 undef, t.getD 81 undef, t.getD 82 undef, t.getD 83 undef, t.getD 84 undef, t.getD 85 undef, t.getD 86 undef, t.getD 87 undef, t.getD 88 undef, t.getD 89 undef, t.getD 90 undef, t.getD 91 undef, t.getD 92 undef, t.getD 93 undef, t.getD 94 undef, t.getD 95 undef, t.getD 96 undef, t.getD 97 undef, t.getD 98 undef, t.getD 99 undef, t.getD 100 undef, t.getD 101 undef, t.getD 102 undef, t.getD 103 undef, t.getD 104 undef, t.getD 105 undef, t.getD 106 undef, t.getD 107 undef, t.getD 108 undef, t.getD 109 undef, t.getD 110 undef, t.getD 111 undef, t.getD 112 undef, t.getD 113 undef, t.getD 114 undef, t.getD 115 undef, t.getD 116 undef, t.getD 117 undef, t.getD 118 undef, t.getD 119 undef, t.getD 120 undef, t.getD 121 undef, t.getD 122 undef] : Array Value) = ((List.range 123).map fun n => t.getD n undef).toArray := rfl
  rw [e]
  apply Array.ext
  · simp [h]
  · intro j h1 h2
    simp [Array.getD, h1]

theorem act_lit (a : Act) (hz : a.tmps.size = 123) (hd : a.defers = []) (x0 x1 x5 : Value) (h0 : a.tmps.getD 0 undef = x0) (h1 : a.tmps.getD 1 undef = x1) (h5 : a.tmps.getD 5 undef = x5) :
    ∃ u : Nat → Value, a = { tmps := #[x0, x1, u 2, u 3, u 4, x5, u 6, u 7, u 8, u 9, u 10, u 11, u 12, u 13, u 14, u 15, u 16, u 17, u 18, u 19, u 20, u 21, u 22, u 23, u 24, u 25, u 26, u 27, u 28, u 29, u 30, u 31, u 32, u 33, u 34, u 35, u 36, u 37, u 38, u 39, u 40, u 41, u 42, u 43, u 44, u 45, u 46, u 47, u 48, u 49, u 50, u 51, u 52, u 53, u 54, u 55, u 56, u 57, u 58, u 59, u 60, u 61, u 62, u 63, u 64, u 65, u 66, u 67, u 68, u 69, u 70, u 71, u 72, u 73, u 74, u 75, u 76, u 77, u 78, u 79, u 80, u 81, u 82, u 83, u 84, u 85, u 86, u 87, u 88, u 89, u 90, u 91, u 92, u 93, u 94, u 95, u 96, u 97, u 98, u 99, u 100, u 101, u 102, u 103, u 104, u 105, u 106, u 107, u 108, u 109, u 110, u 111, u 112, u 113, u 114, u 115, u 116, u 117, u 118, u 119, u 120, u 121, u 122], defers := [] } := by
  obtain ⟨tm, df⟩ := a
  subst h0 h1 h5
  obtain rfl : df = [] := hd
  exact ⟨fun n => tm.getD n undef, by rw [Act.mk.injEq]; exact ⟨tmps_lit tm hz, rfl⟩⟩

/-- The byte, an ASCII capital as its small letter. -/
def lowB (c : UInt8) : Nat := if 65 ≤ c.toNat ∧ c.toNat ≤ 90 then c.toNat + 32 else c.toNat
/-- s is the text t (small hexadecimal digits) in any ASCII case. -/
def foldHex (s t : List UInt8) : Bool := s.map lowB == t.map UInt8.toNat

theorem hx_snoc (s l : ByteArray) (k : Nat) (hs : k < s.size) (hl : k < l.size) (h : (s.data.toList.take k).map lowB = (l.data.toList.take k).map UInt8.toNat) (e : lowB s[k] = l[k].toNat) :
    (s.data.toList.take (k + 1)).map lowB = (l.data.toList.take (k + 1)).map UInt8.toNat := by
  rw [take_snoc s k hs, take_snoc l k hl, List.map_append, List.map_append, h]
  simp [e]
theorem hx_no (s l : ByteArray) (k : Nat) (hs : k < s.size) (hl : k < l.size) (e : lowB s[k] ≠ l[k].toNat) : foldHex s.data.toList l.data.toList = false := by
  unfold foldHex
  rw [beq_eq_false_iff_ne]
  intro h
  have h1 := congrArg (·[k]?) h
  have a1 : s.data.toList[k]? = some s[k] := by rw [List.getElem?_eq_getElem (by simpa using hs)]; rfl
  have a2 : l.data.toList[k]? = some l[k] := by rw [List.getElem?_eq_getElem (by simpa using hl)]; rfl
  simp only [List.getElem?_map, a1, a2, Option.map_some, Option.some.injEq] at h1
  exact e h1
theorem hx_yes (s l : ByteArray) (hl : l.size = s.size) (h : (s.data.toList.take s.size).map lowB = (l.data.toList.take s.size).map UInt8.toNat) : foldHex s.data.toList l.data.toList = true := by
  rw [take_all, ← hl, take_all] at h
  unfold foldHex
  rw [h]; simp
theorem hx_len (s l : List UInt8) (h : l.length ≠ s.length) : foldHex s l = false := by
  unfold foldHex
  rw [beq_eq_false_iff_ne]
  intro e
  have := congrArg List.length e
  simp at this
  omega

/-- A small hexadecimal digit. -/
def hexC (n : Nat) : Prop := (48 ≤ n ∧ n ≤ 57) ∨ (97 ≤ n ∧ n ≤ 102)
/-- A text of small hexadecimal digits. -/
def Hexed (t : ByteArray) : Prop := ∀ (j : Nat) (h : j < t.size), hexC (t[j]'h).toNat
/-- unicode.asciiFold at those digits. -/
def FoldTab (w : World) : Prop := (∀ c : Nat, 48 ≤ c → c ≤ 57 → w.cell? ⟨1, c, none⟩ = some (.int .u16 (c : Int))) ∧ ∀ c : Nat, 65 ≤ c → c ≤ 70 → w.cell? ⟨1, c, none⟩ = some (.int .u16 ((c + 32 : Nat) : Int)) ∧ w.cell? ⟨1, c + 32, none⟩ = some (.int .u16 (c : Int))
theorem FoldTab.below {w w' : World} (h : FoldTab w) (hb : Below w.heap.size w w') : FoldTab w' :=
  ⟨fun c h1 h2 => (hb.cell (p := ⟨1, c, none⟩) (block_lt_of_cell (h.1 c h1 h2))).trans (h.1 c h1 h2), fun c h1 h2 => ⟨(hb.cell (p := ⟨1, c, none⟩) (block_lt_of_cell (h.2 c h1 h2).1)).trans (h.2 c h1 h2).1, (hb.cell (p := ⟨1, c + 32, none⟩) (block_lt_of_cell (h.2 c h1 h2).2)).trans (h.2 c h1 h2).2⟩⟩

/-- What holds where the run jumps to 'hasUnicode': the two strings, a place within both, a byte of s beyond ASCII there. -/
def AtJump (s t : ByteArray) (w : World) (a' : Act) (w' : World) : Prop := w' = w ∧ ∃ (i : Nat) (h1 : i < s.size) (_h2 : i < t.size), 128 ≤ (s[i]'h1).toNat ∧ ∃ u : Nat → Value, a' = { tmps := #[.string s, .string t, u 2, u 3, u 4, .int .i64 i, u 6, u 7, u 8, u 9, u 10, u 11, u 12, u 13, u 14, u 15, u 16, u 17, u 18, u 19, u 20, u 21, u 22, u 23, u 24, u 25, u 26, u 27, u 28, u 29, u 30, u 31, u 32, u 33, u 34, u 35, u 36, u 37, u 38, u 39, u 40, u 41, u 42, u 43, u 44, u 45, u 46, u 47, u 48, u 49, u 50, u 51, u 52, u 53, u 54, u 55, u 56, u 57, u 58, u 59, u 60, u 61, u 62, u 63, u 64, u 65, u 66, u 67, u 68, u 69, u 70, u 71, u 72, u 73, u 74, u 75, u 76, u 77, u 78, u 79, u 80, u 81, u 82, u 83, u 84, u 85, u 86, u 87, u 88, u 89, u 90, u 91, u 92, u 93, u 94, u 95, u 96, u 97, u 98, u 99, u 100, u 101, u 102, u 103, u 104, u 105, u 106, u 107, u 108, u 109, u 110, u 111, u 112, u 113, u 114, u 115, u 116, u 117, u 118, u 119, u 120, u 121, u 122], defers := [] }

set_option maxHeartbeats 400000 in
set_option maxRecDepth 100000 in
theorem dec_ascii (t : ByteArray) (w : World) (h : 0 < t.size) (hb : (t[0].toNat : Int) < 128) :
    Calls Tryd.prog 67 #[.string t] w fun e w' => e = .returned (.tuple #[.int .i32 t[0].toNat, .int .i64 1]) ∧ w' = w := by
  have hne : t.toList.isEmpty = false := by
    rw [Lib.toList_data]
    cases e : t.data.toList with
    | nil =>
      have e2 : t.size = 0 := by rw [Lib.size_eq, e]; rfl
      omega
    | cons _ _ => rfl
  have h1 : (0 : Int) < t.size := by omega
  go_enter Tryd.func67, Tryd.ntmps67
  go_wp2
  go_ret2
  exact ⟨rfl, rfl⟩

set_option maxHeartbeats 400000 in
set_option maxRecDepth 100000 in
theorem eqf_any (s t : ByteArray) (w : World) (hs : s.size ≤ 1048576) (ht : t.size ≤ 4194304) (htw : Hid (Hexed t)) (hT : Hid (FoldTab w))  :
    Calls Tryd.prog 64 #[.string s, .string t] w fun e w' => e = .returned (.bool (foldHex s.data.toList t.data.toList)) ∧ Below w.heap.size w w' := by
  go_enter Tryd.func64, Tryd.ntmps64
  go_wp2
  refine wp_scope_jumps 0 (AtJump s t w) (fun _ _ => 0) rfl ?_ ?_
  · rcases Nat.lt_or_ge t.size s.size with hM | hM
    all_goals
      go_wp2
      go_loopg [5] (min s.size t.size) (fun g s5 wx => w = wx ∧ ∃ i : Nat, i + g = min s.size t.size ∧ s5 = .int .i64 i ∧ Hid ((s.data.toList.take i).map lowB = (t.data.toList.take i).map UInt8.toNat))
      case atStart => exact ⟨rfl, 0, by omega, rfl, (by simp : (s.data.toList.take 0).map lowB = (t.data.toList.take 0).map UInt8.toNat)⟩
      case round =>
        obtain ⟨rfl, i, hig, rfl, hrel⟩ := hrel
        cases gk with
        | zero =>
          by_cases hst : s.size = t.size
          · have hb : ((s.size : Int) == (t.size : Int)) = true := beq_iff_eq.2 (by omega)
            have hz : foldHex s.data.toList t.data.toList = true := hx_yes s t hst.symm (by have := hrel.out; rwa [show i = s.size by omega] at this)
            have HZ : Hid (foldHex s.data.toList t.data.toList = true) := hz
            clear hz hst
            go_wp2
            simp only [Exit.jump]
            go_ret
            exact ⟨ret_bool HZ.out.symm, Below.refl _ _⟩
          · have hb : ((s.size : Int) == (t.size : Int)) = false := beq_eq_false_iff_ne.2 (by omega)
            have hz : foldHex s.data.toList t.data.toList = false := hx_len _ _ (by simp; omega)
            have HZ : Hid (foldHex s.data.toList t.data.toList = false) := hz
            clear hz
            go_wp2
            simp only [Exit.jump]
            go_ret
            exact ⟨ret_bool HZ.out.symm, Below.refl _ _⟩
        | succ g =>
          have hisz : i < s.size := by omega
          have hitz : i < t.size := by omega
          obtain ⟨x, hx⟩ : ∃ x : UInt8, s[i]'(by omega) = x := ⟨_, rfl⟩
          obtain ⟨y, hy⟩ : ∃ y : UInt8, t[i]'(by omega) = y := ⟨_, rfl⟩
          have hyw := htw.out i hitz
          rw [hy] at hyw
          unfold hexC at hyw
          have hy128 : y.toNat < 128 := by omega
          by_cases hx128 : x.toNat < 128
          · have hor : bits .or .u8 (x.toNat : Int) (y.toNat : Int) = ((x.toNat ||| y.toNat : Nat) : Int) := u8_or_nat _ _ (by omega) (by omega)
            have hor128 : ¬ ((128 : Int) ≤ ((x.toNat ||| y.toNat : Nat) : Int)) := by have := Nat.or_lt_two_pow (n := 7) hx128 hy128; omega
            go_wp2
            all_goals (try simp only [beq_iff_eq, beq_eq_false_iff_ne, ne_eq] at *)
            all_goals first
              | (go_roundg g
                 case measure => omega
                 case rel => exact ⟨rfl, i + 1, by omega, by first | rfl | simp, hx_snoc s t i hisz hitz hrel.out (by rw [hx, hy]; unfold lowB; split <;> omega)⟩)
              | (simp only [Exit.jump]
                 go_ret
                 exact ⟨ret_bool (hx_no s t i hisz hitz (by rw [hx, hy]; unfold lowB; split <;> omega)).symm, Below.refl _ _⟩)
          · have hor128 : ((128 : Int) ≤ bits .or .u8 (x.toNat : Int) (y.toNat : Int)) := by
              rw [u8_or_nat _ _ (by have := x.toNat_lt; omega) (by omega)]
              have := Nat.left_le_or (n := x.toNat) (m := y.toNat)
              omega
            go_wp2
            go_step3
            exact ⟨rfl, rfl, i, hisz, hitz, by rw [hx]; omega, act_lit _ rfl rfl _ _ _ rfl rfl rfl⟩
  · rintro a' w' ⟨rfl, i, h1, h2, hx, u, rfl⟩
    have hs1 : 0 < (s.extract i s.size).size := by simp; omega
    have ht1 : 0 < (t.extract i t.size).size := by simp; omega
    have es : (s.extract i s.size)[0]'hs1 = s[i] := by simp [ByteArray.getElem_extract]
    have et : (t.extract i t.size)[0]'ht1 = t[i] := by simp [ByteArray.getElem_extract]
    have hw := htw.out i h2
    unfold hexC at hw
    have hno : foldHex s.data.toList t.data.toList = false := hx_no s t i h1 h2 (by unfold lowB; split <;> omega)
    have HN : Hid (foldHex s.data.toList t.data.toList = false) := hno
    have hbs : 128 ≤ ((s.extract i s.size)[0]'hs1).toNat := by rw [es]; exact hx
    go_wp2
    generalize s.extract i s.size = s1 at *
    generalize t.extract i t.size = t1 at *
    obtain ⟨y, hy⟩ : ∃ y : Nat, t[i].toNat = y := ⟨_, rfl⟩
    have hyt : t1[0].toNat = y := by rw [et, hy]
    rw [hy] at hw
    obtain ⟨hd1, hd2⟩ := decode_high s1 0 hs1 hbs
    have hd3 := decode_le s1 0
    have hn := fun ty => run_next_any (P := Tryd.prog) w' s1 0 ty hs1
    have HT2 := hid hT.out
    obtain ⟨r, hr⟩ : ∃ r : Nat, (Utf8.decode s1 0).1 = r := ⟨_, rfl⟩
    rw [hr] at hd1 hd3 hn
    clear hr hno hx hs es et htw hT hy hbs
    refine wp_loop_rounds 1 ?_
    rw [rounds_succ]
    go_wp2_with (first
      | (go_at_call 67; refine (dec_ascii _ _ ht1 (by omega)).mono ?_; rintro e w1 ⟨rfl, rfl⟩; rw [hyt]))
    rcases hw with hw | hw
    · have g1 : (w'.iter s1 (Utf8.decode s1 0).snd).cell? ⟨1, y, none⟩ = some (.int .u16 (y : Int)) := (HT2.out.below ((Below.refl w'.heap.size w').alloc (Nat.le_refl _) _)).1 y hw.1 hw.2
      refine (simpleFold_ascii y y _ (by omega) (by omega) (by rw [g1])).mono ?_
      rintro e w1 ⟨rfl, rfl⟩
      go_wp2_with fail
      refine wp_loop_rounds 1 ?_
      rw [rounds_succ]
      go_wp2_with fail
      all_goals
        simp only [Exit.jump]
        go_ret
        exact ⟨ret_bool HN.out.symm, (Below.refl _ _).alloc (Nat.le_refl _) _⟩
    · obtain ⟨c, rfl⟩ : ∃ c, y = c + 32 := ⟨y - 32, by omega⟩
      obtain ⟨g2, g1⟩ := (HT2.out.below ((Below.refl w'.heap.size w').alloc (Nat.le_refl _) (.stringIter s1 (Utf8.decode s1 0).snd))).2 c (by omega) (by omega)
      refine (simpleFold_ascii (c + 32) c _ (by omega) (by omega) g1).mono ?_
      rintro e w1 ⟨rfl, rfl⟩
      go_wp2_with fail
      refine wp_loop_rounds 2 ?_
      rw [rounds_succ]
      go_wp2_with (go_at_call 74; refine (simpleFold_ascii c (c + 32) _ (by omega) (by omega) g2).mono ?_; rintro e w1 ⟨rfl, rfl⟩)
      rw [rounds_succ]
      go_wp2_with fail
      all_goals
        simp only [Exit.jump]
        go_ret
        exact ⟨ret_bool HN.out.symm, (Below.refl _ _).alloc (Nat.le_refl _) _⟩
end Go.Proofs.Qxb6613124aDoor
