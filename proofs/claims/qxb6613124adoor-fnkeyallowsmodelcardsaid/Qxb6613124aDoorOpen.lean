/-
  Seat b6613124aD: the inputs opened; what the listed variables hold.
-/
import Derived.Test.Qxb6613124aDoorRows
import Derived.Test.Qxb6613124aDoorLawp
import Derived.ProofKit
import Derived.PinnedBridge
import Derived.LaidLaws
import Derived.Lib.SmallJoins
import Derived.Lib.LaidCase
import Derived.Maps.OwnSet
import Derived.Lay
namespace Go.Proofs.Qxb6613124aDoor
open Go.ChangeShapes Go.WideShapes Go.ChangeAt Go.RowKit

theorem own : ownKnob Tryd.prog.godebug = none := by kernel_rfl
theorem laidOut : laidOutB Tryd.prog = true := by kernel_rfl
theorem cells2 : Tryd.prog.cellsOf 2 = 1 := by kernel_rfl
theorem cells3 : Tryd.prog.cellsOf 3 = 1 := by kernel_rfl
theorem cells4 : Tryd.prog.cellsOf 4 = 1 := by kernel_rfl
theorem cells5 : Tryd.prog.cellsOf 5 = 1 := by kernel_rfl
theorem cells9 : Tryd.prog.cellsOf 9 = 1 := by kernel_rfl
theorem cells25 : Tryd.prog.cellsOf 25 = 2 := by kernel_rfl
theorem cells26 : Tryd.prog.cellsOf 26 = 1 := by kernel_rfl
theorem cells28 : Tryd.prog.cellsOf 28 = 1 := by kernel_rfl
theorem cells30 : Tryd.prog.cellsOf 30 = 7 := by kernel_rfl
theorem cells33 : Tryd.prog.cellsOf 33 = 1 := by kernel_rfl
theorem cells38 : Tryd.prog.cellsOf 38 = 1 := by kernel_rfl
theorem cells40 : Tryd.prog.cellsOf 40 = 5 := by kernel_rfl
theorem cells45 : Tryd.prog.cellsOf 45 = 4 := by kernel_rfl
theorem cells66 : Tryd.prog.cellsOf 66 = 4 := by kernel_rfl
theorem cells124 : Tryd.prog.cellsOf 124 = 1 := by kernel_rfl
theorem cells125 : Tryd.prog.cellsOf 125 = 128 := by kernel_rfl

/-! ### the listed variables -/
/-- unicode.asciiFold's numbers, by a rule. -/
def foldN (n : Nat) : Int := if 65 ≤ n ∧ n ≤ 90 then n + 32 else if n = 107 then 8490 else if n = 115 then 383 else if 97 ≤ n ∧ n ≤ 122 then n - 32 else n
theorem fold_data : (Rows.laid_unicode_asciiFold : DataW Unit) = Lib.tabData .u16 ((List.range 128).map foldN) := by kernel_rfl
theorem foldTab_of {W : World} (h : Lib.VarReads Tryd.prog W "unicode.asciiFold" Rows.laid_unicode_asciiFold) : FoldTab W := by
  obtain ⟨g, t, cs, fuel, p, hg, ht, hv, hd⟩ := h
  obtain rfl := Option.some.inj ((show Tryd.prog.globalNamed "unicode.asciiFold" = some 1 by kernel_rfl).symm.trans hg)
  obtain rfl := Option.some.inj ((show (Tryd.prog.globals[1]?).map (·.type) = some 125 by kernel_rfl).symm.trans ht)
  rw [fold_data] at hd
  have hcs := Lib.cells_of_tab Tryd.underlying125 Tryd.underlying124 cells124 cells125 hd
  have key : ∀ n, n < 128 → W.cell? ⟨1, n, none⟩ = some (.int .u16 (foldN n)) := by
    intro n hn
    rw [World.var?_cell hg hv n, ← Array.getElem?_toList, hcs]
    simp [hn]
  refine ⟨fun c h1 h2 => ?_, fun c h1 h2 => ?_⟩
  · rw [key c (by omega)]
    have e1 : foldN c = (c : Int) := by unfold foldN; rw [if_neg (by omega), if_neg (by omega), if_neg (by omega), if_neg (by omega)]
    rw [e1]
  · rw [key c (by omega), key (c + 32) (by omega)]
    have e1 : foldN c = ((c + 32 : Nat) : Int) := by unfold foldN; rw [if_pos (by omega)]; omega
    have e2 : foldN (c + 32) = (c : Int) := by unfold foldN; rw [if_neg (by omega), if_neg (by omega), if_neg (by omega), if_pos (by omega)]; omega
    rw [e1, e2]
    exact ⟨rfl, rfl⟩
theorem cases_of {W : World} (h : Lib.VarReads Tryd.prog W "unicode.CaseRanges" Rows.laid_unicode_CaseRanges) : Cases W :=
  caseVar_of_reads (ρ := Tryd.lays204_ren) { Tryd.lays204 with } Tryd.lays204.t206 ⟨by kernel_rfl, by kernel_rfl, by kernel_rfl, by kernel_rfl, by kernel_rfl, by kernel_rfl⟩ (Pinned.caseRanges_eq ▸ h)

/-! ### the inputs -/
/-- What is there for each place is there as a list. -/
theorem list_of {α : Type} {Q : Nat → α → Prop} : ∀ (n : Nat), (∀ i, i < n → ∃ v, Q i v) → ∃ vs : List α, vs.length = n ∧ ∀ (i : Nat) (h : i < vs.length), Q i vs[i]
  | 0, _ => ⟨[], rfl, fun i h => by cases h⟩
  | n + 1, h => by
    obtain ⟨vs, hl, hv⟩ := list_of n (fun i hi => h i (by omega))
    obtain ⟨v, hq⟩ := h n (by omega)
    refine ⟨vs ++ [v], by simp [hl], fun i hi => ?_⟩
    by_cases e : i < vs.length
    · rw [List.getElem_append_left e]; exact hv i e
    · have e2 : i = n := by simp at hi; omega
      subst e2
      rw [List.getElem_append_right (by omega)]
      simpa [hl] using hq

theorem byte_of {z : Int} (h : (Lit.int .u8 z).wf = true) : ∃ b : UInt8, z = (b.toNat : Int) := by
  simp only [Lit.wf, Bool.and_eq_true, decide_eq_true_eq] at h
  have h1 : (0 : Int) ≤ z := h.1
  have h2 : z ≤ 255 := h.2
  refine ⟨UInt8.ofNat z.toNat, ?_⟩
  rw [UInt8.toNat_ofNat']
  omega

theorem list4 {α : Type} : ∀ {l : List α}, l.length = 4 → ∃ a b c d, l = [a, b, c, d]
  | [a, b, c, d], _ => ⟨a, b, c, d, rfl⟩
theorem list5 {α : Type} : ∀ {l : List α}, l.length = 5 → ∃ a b c d e, l = [a, b, c, d, e]
  | [a, b, c, d, e], _ => ⟨a, b, c, d, e, rfl⟩
theorem list7 {α : Type} : ∀ {l : List α}, l.length = 7 → ∃ a b c d e f g, l = [a, b, c, d, e, f, g]
  | [a, b, c, d, e, f, g], _ => ⟨a, b, c, d, e, f, g, rfl⟩

section
variable {H : Type} {enc : TypeId × Value → H} {W : World} {base : Nat} {sp : Nat → Bool} {held : Bool}

/-- One field of a struct. -/
theorem field_of {t : TypeId} {fs : Array Field} {fuel : Nat} {cs : List Value} {x : DataW H × List MemPlace} (ht : Tryd.prog.underlying t = some (.struct fs)) (h : DataW.trod enc Tryd.prog W base sp held fuel t cs = some x) (i ty off : Nat) {n : Nat} (hn : Tryd.prog.cellsOf ty = n) (hf : (fs[i]?).map (fun f => (f.type, f.offset)) = some (ty, off)) :
    ∃ m y, DataW.trod enc Tryd.prog W base sp held m ty ((cs.drop off).take n) = some y := by
  obtain ⟨xs, m, _, rfl, hl, hlen, hx⟩ := DataW.trod_struct ht h
  obtain ⟨f, hff, e⟩ := Option.map_eq_some_iff.1 hf
  cases e
  have hi : i < xs.length := by rw [hlen]; exact (Array.getElem?_eq_some_iff.1 hff).1
  exact ⟨m, xs[i], by rw [← hn, hx i f hff, List.getElem?_eq_getElem hi]⟩
theorem struct_len {t : TypeId} {fs : Array Field} {fuel : Nat} {cs : List Value} {x : DataW H × List MemPlace} (ht : Tryd.prog.underlying t = some (.struct fs)) (h : DataW.trod enc Tryd.prog W base sp held fuel t cs = some x) : cs.length = Tryd.prog.cellsOf t := by
  obtain ⟨xs, n, _, rfl, hl, hlen, hx⟩ := DataW.trod_struct ht h
  exact hl

/-- A slice: nil, or its elements lie one behind the other, c cells each. -/
theorem slice_of {α : Type} {t e c : Nat} (Q : Nat → Nat → α → Prop) (ht : Tryd.prog.underlying t = some (.slice e)) (hc : Tryd.prog.cellsOf e = c) (hc0 : 0 < c)
    (hq : ∀ b o fuel cs x, W.cells? base ⟨b, o, none⟩ c = some cs → DataW.trod enc Tryd.prog W base sp held fuel e cs = some x → ∃ v, Q b o v)
    {fuel : Nat} {cs : List Value} {x : DataW H × List MemPlace} (h : DataW.trod enc Tryd.prog W base sp held fuel t cs = some x) :
    ∃ (p : Option Addr) (vs : List α) (cap : Nat), cs = [.slice p vs.length cap] ∧ (p = none → vs = []) ∧ (0 < vs.length → ∃ b o, p = some ⟨b, o, none⟩ ∧ ∀ (j : Nat) (h : j < vs.length), Q b (o + j * c) vs[j]) := by
  rcases Deep.open_slice ht h with ⟨hcs, _⟩ | ⟨a, len, cap, m, n, D, Pl, hcs, _, hl, _, hm, _, hel⟩
  · exact ⟨none, [], 0, hcs, fun _ => rfl, fun h => by simp at h⟩
  · have hlm : len ≤ m := by rw [hm]; split <;> omega
    rw [hc] at hel
    obtain ⟨b, o, spot⟩ := a
    by_cases h0 : len = 0
    · subst h0
      exact ⟨some ⟨b, o, spot⟩, [], cap, hcs, (fun h => by cases h), fun h => by simp at h⟩
    · have hspot : spot = none := by
        obtain ⟨cs', hc', _⟩ := hel 0 (by omega)
        obtain ⟨_, hcl, hcc⟩ := World.cells?_some hc'
        have k0 := hcc 0 (by omega)
        rw [List.getElem?_eq_getElem (by omega)] at k0
        have e : (Addr.add (Addr.add ⟨b, o, spot⟩ (0 * c)) 0) = ⟨b, o, spot⟩ := by simp [Addr.add]
        rw [e] at k0
        exact cell_spot k0
      subst hspot
      obtain ⟨vs, hvl, hvs⟩ := list_of (Q := fun i v => Q b (o + i * c) v) len (fun i hi => by
        obtain ⟨cs', hc', ht'⟩ := hel i (by omega)
        have e : (Addr.add ⟨b, o, none⟩ (i * c)) = ⟨b, o + i * c, none⟩ := by simp [Addr.add]
        rw [e] at hc'
        exact hq _ _ _ _ _ hc' ht')
      subst hvl
      exact ⟨_, vs, cap, hcs, (fun h => by cases h), fun _ => ⟨b, o, rfl, hvs⟩⟩

theorem one_cell {b o : Nat} {v : Value} (hc : W.cells? base ⟨b, o, none⟩ 1 = some [v]) : W.cell? ⟨b, o, none⟩ = some v := by
  obtain ⟨_, _, hcc⟩ := World.cells?_some hc
  simpa [Addr.add] using hcc 0 (by omega)

theorem strs_of {fuel : Nat} {cs : List Value} {x : DataW H × List MemPlace} (h : DataW.trod enc Tryd.prog W base sp held fuel 33 cs = some x) : ∃ (p : Option Addr) (ss : List ByteArray) (cap : Nat), cs = [.slice p ss.length cap] ∧ (p = none → ss = []) ∧ StrsAt W p ss := by
  obtain ⟨p, ss, cap, h1, h2, h3⟩ := slice_of (fun b o (s : ByteArray) => W.cell? ⟨b, o, none⟩ = some (.string s)) Tryd.underlying33 cells9 (by omega) (fun b o fuel cs x hc ht => by
    obtain ⟨s, rfl, _, _⟩ := DataW.trod_string Tryd.underlying9 ht
    exact ⟨s, one_cell hc⟩) h
  refine ⟨p, ss, cap, h1, h2, fun h0 => ?_⟩
  obtain ⟨b, o, e, hj⟩ := h3 h0
  exact ⟨b, o, e, fun j h => by have := hj j h; rwa [Nat.mul_one] at this⟩
theorem bytes_of {fuel : Nat} {cs : List Value} {x : DataW H × List MemPlace} (h : DataW.trod enc Tryd.prog W base sp held fuel 78 cs = some x) : ∃ (p : Option Addr) (l : List UInt8) (cap : Nat), cs = [.slice p l.length cap] ∧ BytesAt W p l := by
  obtain ⟨p, l, cap, h1, h2, h3⟩ := slice_of (fun b o (s : UInt8) => W.cell? ⟨b, o, none⟩ = some (.int .u8 (s.toNat : Int))) Tryd.underlying78 cells5 (by omega) (fun b o fuel cs x hc ht => by
    obtain ⟨z, rfl, _, hw⟩ := DataW.trod_int Tryd.underlying5 ht
    obtain ⟨y, rfl⟩ := byte_of hw
    exact ⟨y, one_cell hc⟩) h
  refine ⟨p, l, cap, h1, fun h0 => ?_⟩
  obtain ⟨b, o, e, hj⟩ := h3 h0
  exact ⟨b, o, e, fun j h => by have := hj j h; rwa [Nat.mul_one] at this⟩

/-- A condition. -/
def CondIs (W : World) (b o : Nat) (v : CV) : Prop := (W.cell? ⟨b, o, none⟩ = some (.bool v.c.neg) ∧ W.cell? ⟨b, o + 1, none⟩ = some (.bool v.c.ic) ∧ W.cell? ⟨b, o + 2, none⟩ = some (.int .i64 v.c.pcr) ∧ W.cell? ⟨b, o + 3, none⟩ = some (.slice v.p v.c.vals.length v.cp)) ∧ StrsAt W v.p v.c.vals ∧ (v.p = none → v.c.vals = []) ∧ (Lit.int .i64 v.c.pcr).wf = true
theorem cond_of {fuel b o : Nat} {cs : List Value} {x : DataW H × List MemPlace} (hc : W.cells? base ⟨b, o, none⟩ 4 = some cs) (h : DataW.trod enc Tryd.prog W base sp held fuel 66 cs = some x) : ∃ v, CondIs W b o v := by
  obtain ⟨_, _, hcc⟩ := World.cells?_some hc
  have hl := struct_len Tryd.underlying66 h
  rw [cells66] at hl
  obtain ⟨_, _, h0⟩ := field_of Tryd.underlying66 h 0 4 0 cells4 rfl
  obtain ⟨_, _, h1⟩ := field_of Tryd.underlying66 h 1 4 1 cells4 rfl
  obtain ⟨_, _, h2⟩ := field_of Tryd.underlying66 h 2 2 2 cells2 rfl
  obtain ⟨_, _, h3⟩ := field_of Tryd.underlying66 h 3 33 3 cells33 rfl
  obtain ⟨c0, c1, c2, c3, rfl⟩ := list4 hl
  obtain ⟨q0, e0, _⟩ := DataW.trod_bool Tryd.underlying4 h0
  obtain ⟨q1, e1, _⟩ := DataW.trod_bool Tryd.underlying4 h1
  obtain ⟨z, e2, _, hw⟩ := DataW.trod_int Tryd.underlying2 h2
  obtain ⟨p, ss, cap, e3, hn, hS⟩ := strs_of h3
  simp at e0 e1 e2 e3
  subst e0 e1 e2 e3
  have k0 := hcc 0 (by omega)
  have k1 := hcc 1 (by omega)
  have k2 := hcc 2 (by omega)
  have k3 := hcc 3 (by omega)
  simp [Addr.add] at k0 k1 k2 k3
  exact ⟨⟨⟨q0, q1, z, ss⟩, p, cap⟩, ⟨k0, k1, k2, k3⟩, hS, hn, hw⟩
/-- A slice of conditions. -/
def CondsAre (W : World) (p : Option Addr) (cs : List CV) : Prop := CondsAt W p cs ∧ (p = none → cs = []) ∧ ∀ v ∈ cs, StrsAt W v.p v.c.vals ∧ (v.p = none → v.c.vals = []) ∧ (Lit.int .i64 v.c.pcr).wf = true
theorem conds_of {fuel : Nat} {cs : List Value} {x : DataW H × List MemPlace} (h : DataW.trod enc Tryd.prog W base sp held fuel 38 cs = some x) : ∃ (p : Option Addr) (ss : List CV) (cap : Nat), cs = [.slice p ss.length cap] ∧ CondsAre W p ss := by
  obtain ⟨p, ss, cap, h1, h2, h3⟩ := slice_of (CondIs W) Tryd.underlying38 cells66 (by omega) (fun b o fuel cs x hc ht => cond_of hc ht) h
  refine ⟨p, ss, cap, h1, fun h0 => ?_, h2, fun v hv => ?_⟩
  · obtain ⟨b, o, e, hj⟩ := h3 h0
    exact ⟨b, o, e, fun j h => (hj j h).1⟩
  · obtain ⟨j, hj, rfl⟩ := List.getElem_of_mem hv
    obtain ⟨b, o, e, hj'⟩ := h3 (by omega)
    exact (hj' j hj).2

/-- A statement of a key policy. -/
def StmtIs (W : World) (b o : Nat) (v : SV) : Prop := (W.cell? ⟨b, o, none⟩ = some (.bool v.deny) ∧ W.cell? ⟨b, o + 1, none⟩ = some (.slice v.pa v.acts.length v.ca) ∧ W.cell? ⟨b, o + 2, none⟩ = some (.slice v.pr v.res.length v.cr) ∧ W.cell? ⟨b, o + 3, none⟩ = some (.slice v.pp v.prins.length v.cpp) ∧ W.cell? ⟨b, o + 4, none⟩ = some (.slice v.pc v.conds.length v.cc)) ∧ StrsAt W v.pa v.acts ∧ StrsAt W v.pr v.res ∧ StrsAt W v.pp v.prins ∧ CondsAre W v.pc v.conds ∧ (v.pa = none → v.acts = []) ∧ (v.pr = none → v.res = []) ∧ (v.pp = none → v.prins = [])
theorem stmt_of {fuel b o : Nat} {cs : List Value} {x : DataW H × List MemPlace} (hc : W.cells? base ⟨b, o, none⟩ 5 = some cs) (h : DataW.trod enc Tryd.prog W base sp held fuel 40 cs = some x) : ∃ v, StmtIs W b o v := by
  obtain ⟨_, _, hcc⟩ := World.cells?_some hc
  have hl := struct_len Tryd.underlying40 h
  rw [cells40] at hl
  obtain ⟨_, _, h0⟩ := field_of Tryd.underlying40 h 0 4 0 cells4 rfl
  obtain ⟨_, _, h1⟩ := field_of Tryd.underlying40 h 1 33 1 cells33 rfl
  obtain ⟨_, _, h2⟩ := field_of Tryd.underlying40 h 2 33 2 cells33 rfl
  obtain ⟨_, _, h3⟩ := field_of Tryd.underlying40 h 3 33 3 cells33 rfl
  obtain ⟨_, _, h4⟩ := field_of Tryd.underlying40 h 4 38 4 cells38 rfl
  obtain ⟨c0, c1, c2, c3, c4, rfl⟩ := list5 hl
  obtain ⟨q0, e0, _⟩ := DataW.trod_bool Tryd.underlying4 h0
  obtain ⟨p1, s1, cap1, e1, hn1, hS1⟩ := strs_of h1
  obtain ⟨p2, s2, cap2, e2, hn2, hS2⟩ := strs_of h2
  obtain ⟨p3, s3, cap3, e3, hn3, hS3⟩ := strs_of h3
  obtain ⟨p4, s4, cap4, e4, hC⟩ := conds_of h4
  simp at e0 e1 e2 e3 e4
  subst e0 e1 e2 e3 e4
  have k0 := hcc 0 (by omega)
  have k1 := hcc 1 (by omega)
  have k2 := hcc 2 (by omega)
  have k3 := hcc 3 (by omega)
  have k4 := hcc 4 (by omega)
  simp [Addr.add] at k0 k1 k2 k3 k4
  exact ⟨⟨q0, s1, p1, cap1, s2, p2, cap2, s3, p3, cap3, s4, p4, cap4⟩, ⟨k0, k1, k2, k3, k4⟩, hS1, hS2, hS3, hC, hn1, hn2, hn3⟩

/-- A statement of an identity policy. -/
def IdIs (W : World) (b o : Nat) (v : SV) : Prop := (W.cell? ⟨b, o, none⟩ = some (.bool v.deny) ∧ W.cell? ⟨b, o + 1, none⟩ = some (.slice v.pa v.acts.length v.ca) ∧ W.cell? ⟨b, o + 2, none⟩ = some (.slice v.pr v.res.length v.cr) ∧ W.cell? ⟨b, o + 3, none⟩ = some (.slice v.pc v.conds.length v.cc)) ∧ StrsAt W v.pa v.acts ∧ StrsAt W v.pr v.res ∧ v.pp = none ∧ v.prins = [] ∧ CondsAre W v.pc v.conds ∧ (v.pa = none → v.acts = []) ∧ (v.pr = none → v.res = [])
theorem id_of {fuel b o : Nat} {cs : List Value} {x : DataW H × List MemPlace} (hc : W.cells? base ⟨b, o, none⟩ 4 = some cs) (h : DataW.trod enc Tryd.prog W base sp held fuel 45 cs = some x) : ∃ v, IdIs W b o v := by
  obtain ⟨_, _, hcc⟩ := World.cells?_some hc
  have hl := struct_len Tryd.underlying45 h
  rw [cells45] at hl
  obtain ⟨_, _, h0⟩ := field_of Tryd.underlying45 h 0 4 0 cells4 rfl
  obtain ⟨_, _, h1⟩ := field_of Tryd.underlying45 h 1 33 1 cells33 rfl
  obtain ⟨_, _, h2⟩ := field_of Tryd.underlying45 h 2 33 2 cells33 rfl
  obtain ⟨_, _, h3⟩ := field_of Tryd.underlying45 h 3 38 3 cells38 rfl
  obtain ⟨c0, c1, c2, c3, rfl⟩ := list4 hl
  obtain ⟨q0, e0, _⟩ := DataW.trod_bool Tryd.underlying4 h0
  obtain ⟨p1, s1, cap1, e1, hn1, hS1⟩ := strs_of h1
  obtain ⟨p2, s2, cap2, e2, hn2, hS2⟩ := strs_of h2
  obtain ⟨p4, s4, cap4, e4, hC⟩ := conds_of h3
  simp at e0 e1 e2 e4
  subst e0 e1 e2 e4
  have k0 := hcc 0 (by omega)
  have k1 := hcc 1 (by omega)
  have k2 := hcc 2 (by omega)
  have k3 := hcc 3 (by omega)
  simp [Addr.add] at k0 k1 k2 k3
  exact ⟨⟨q0, s1, p1, cap1, s2, p2, cap2, [], none, 0, s4, p4, cap4⟩, ⟨k0, k1, k2, k3⟩, hS1, hS2, rfl, rfl, hC, hn1, hn2⟩

/-- The key policy's statements. -/
theorem ks_of {fuel : Nat} {cs : List Value} {x : DataW H × List MemPlace} (h : DataW.trod enc Tryd.prog W base sp held fuel 22 cs = some x) : ∃ (p : Option Addr) (ks : List SV) (cap : Nat), cs = [.slice p ks.length cap] ∧ StmtsAt W p ks ∧ (∀ mv f, ∀ s ∈ ks, Raw W mv f s) ∧ ∀ s ∈ ks, Nils s := by
  obtain ⟨p, ks, cap, h1, h2, h3⟩ := slice_of (StmtIs W) Tryd.underlying22 cells40 (by omega) (fun b o fuel cs x hc ht => stmt_of hc ht) h
  refine ⟨p, ks, cap, h1, fun h0 => ?_, fun mv f s hs => ?_, fun s hs => ?_⟩
  · obtain ⟨b, o, e, hj⟩ := h3 h0
    exact ⟨b, o, e, fun j h => (hj j h).1⟩
  · obtain ⟨j, hj, rfl⟩ := List.getElem_of_mem hs
    obtain ⟨b, o, e, hj'⟩ := h3 (by omega)
    obtain ⟨_, k1, k2, k3, k4, _⟩ := hj' j hj
    exact ⟨k1, k2, k3, k4.1, fun v hv => (k4.2.2 v hv).1, fun v hv => (k4.2.2 v hv).2.2⟩
  · obtain ⟨j, hj, rfl⟩ := List.getElem_of_mem hs
    obtain ⟨b, o, e, hj'⟩ := h3 (by omega)
    obtain ⟨_, k1, k2, k3, k4, k5, k6, k7⟩ := hj' j hj
    exact ⟨k5, k6, k7, k4.2.1, fun v hv => (k4.2.2 v hv).2.1⟩
/-- The identity policy's statements. -/
theorem gs_of {fuel : Nat} {cs : List Value} {x : DataW H × List MemPlace} (h : DataW.trod enc Tryd.prog W base sp held fuel 23 cs = some x) : ∃ (p : Option Addr) (gs : List SV) (cap : Nat), cs = [.slice p gs.length cap] ∧ (p = none → gs = []) ∧ IdentAt W p gs ∧ (∀ mv f, ∀ s ∈ gs, Raw W mv f s) ∧ (∀ s ∈ gs, Nils s) ∧ ∀ s ∈ gs, s.pp = none := by
  obtain ⟨p, ks, cap, h1, h2, h3⟩ := slice_of (IdIs W) Tryd.underlying23 cells45 (by omega) (fun b o fuel cs x hc ht => id_of hc ht) h
  refine ⟨p, ks, cap, h1, h2, fun h0 => ?_, fun mv f s hs => ?_, fun s hs => ?_, fun s hs => ?_⟩
  · obtain ⟨b, o, e, hj⟩ := h3 h0
    exact ⟨b, o, e, fun j h => (hj j h).1⟩
  · obtain ⟨j, hj, rfl⟩ := List.getElem_of_mem hs
    obtain ⟨b, o, e, hj'⟩ := h3 (by omega)
    obtain ⟨_, k1, k2, k3, k3', k4, _⟩ := hj' j hj
    exact ⟨k1, k2, fun h => absurd h (by rw [k3']; simp), k4.1, fun v hv => (k4.2.2 v hv).1, fun v hv => (k4.2.2 v hv).2.2⟩
  · obtain ⟨j, hj, rfl⟩ := List.getElem_of_mem hs
    obtain ⟨b, o, e, hj'⟩ := h3 (by omega)
    obtain ⟨_, k1, k2, k3, k3', k4, k5, k6⟩ := hj' j hj
    exact ⟨k5, k6, fun _ => k3', k4.2.1, fun v hv => (k4.2.2 v hv).2.1⟩
  · obtain ⟨j, hj, rfl⟩ := List.getElem_of_mem hs
    obtain ⟨b, o, e, hj'⟩ := h3 (by omega)
    exact (hj' j hj).2.2.2.1

/-! ### the map -/
theorem mapLaw : Maps.Keyed Tryd.prog 2 := Maps.int_keyed Tryd.underlying2
theorem zero78 (w : World) : (zeroValue 78).run Tryd.prog w = .ok (.slice none 0 0) w := by kernel_rfl

/-- An entry's element is a slice of bytes. -/
theorem elem_of {n : Nat} {v : Value} {y : DataW H × List MemPlace} (h : WideElems.elemAt enc Tryd.prog W base sp held n 78 v = some y) : ∃ (p : Option Addr) (l : List UInt8) (cap : Nat), v = .slice p l.length cap ∧ BytesAt W p l := by
  unfold WideElems.elemAt at h
  split at h
  · rename_i hf
    obtain ⟨p, l, cap, e, hb⟩ := bytes_of h
    refine ⟨p, l, cap, ?_, hb⟩
    cases v <;> simp [Value.cells] at e <;> first | exact e | (simp [Value.formed, Tryd.underlying78] at hf)
    obtain ⟨rfl, rfl, rfl⟩ := e
    rfl
  · cases h

theorem one_entry {es : List MapEntry} (hp : es.Pairwise (fun x y => x.key ≠ y.key)) {a b : MapEntry} (ha : a ∈ es) (hb : b ∈ es) (h : a.key = b.key) : a = b := by
  induction hp with
  | nil => cases ha
  | cons hx _ ih =>
    rcases List.mem_cons.1 ha with rfl | ha'
    · rcases List.mem_cons.1 hb with rfl | hb'
      · rfl
      · exact absurd h (hx b hb')
    · rcases List.mem_cons.1 hb with rfl | hb'
      · exact absurd h.symm (hx a ha')
      · exact ih ha' hb'

theorem look_of {n b clock : Nat} {es : Array MapEntry} (hb : W.heap[b]? = some (.map es clock)) (F : WideElems.Fit Tryd.prog 2 (WideElems.elemAt enc Tryd.prog W base sp held n 78) es clock) (k : Int) (hk : (Lit.int .i64 k).wf = true) :
    ∃ o, ∀ W', Below W.heap.size W W' → LookAt W' (.map (some b)) k o := by
  have hkey := Maps.keyOf_int_mk Tryd.underlying2 hk
  have hbl : b < W.heap.size := (Array.getElem?_eq_some_iff.1 hb).1
  have hp : es.toList.Pairwise (fun x y => x.key ≠ y.key) := ((MapKept.stamped_iff es clock).1 F.stamped).2.2
  by_cases hex : ∃ e0 ∈ es.toList, e0.key = .int .i64 k
  · obtain ⟨e0, hm, he⟩ := hex
    obtain ⟨y, hy⟩ := F.reads e0 hm
    obtain ⟨z, hz, _⟩ := WideElems.rd_val hy
    obtain ⟨p, l, cap, hv, hB⟩ := elem_of hz
    refine ⟨some l, fun W' hW => ?_⟩
    have hb' : W'.heap[b]? = some (.map es clock) := (hW.block b hbl).trans hb
    have two : ∀ c : Bool, (Instr.lookup 26 (.map (some b)) (.int .i64 k) c).run Tryd.prog W' = .ok (if c then .tuple #[.slice p l.length cap, .bool true] else .slice p l.length cap) W' := by
      intro c
      rcases Maps.fit_look c mapLaw Tryd.underlying26 (zero78 W') hb' F hkey with ⟨_, hno, _⟩ | ⟨e1, y1, hm1, he1, hrun, _⟩
      · exact absurd he (hno e0 hm)
      · obtain rfl := one_entry hp hm hm1 (he.trans he1.symm)
        rw [hrun, hv]
    exact ⟨p, cap, by simpa using two true, by simpa using two false, hB.below hW⟩
  · refine ⟨none, fun W' hW => ?_⟩
    have hb' : W'.heap[b]? = some (.map es clock) := (hW.block b hbl).trans hb
    have two : ∀ c : Bool, (Instr.lookup 26 (.map (some b)) (.int .i64 k) c).run Tryd.prog W' = .ok (if c then .tuple #[.slice none 0 0, .bool false] else .slice none 0 0) W' := by
      intro c
      rcases Maps.fit_look c mapLaw Tryd.underlying26 (zero78 W') hb' F hkey with ⟨hrun, _, _⟩ | ⟨e1, y1, hm1, he1, _⟩
      · exact hrun
      · exact absurd ⟨e1, hm1, he1⟩ hex
    exact ⟨by simpa using two true, by simpa using two false⟩

theorem map_of {fuel : Nat} {cs : List Value} {x : DataW H × List MemPlace} (h : DataW.trod enc Tryd.prog W base sp held fuel 26 cs = some x) :
    ∃ (mv : Value) (f : Int → Option (List UInt8)) (L : Nat), cs = [mv] ∧ MapAll W mv f ∧ ∀ W', Below W.heap.size W W' → (Builtin.len_ #[26] 3 #[mv]).run Tryd.prog W' = .ok (.int .i64 (L : Int)) W' := by
  rcases WideElems.open_map Tryd.underlying26 h with ⟨hcs, _⟩ | ⟨b, es, clock, n, _, hcs, hb, _, F, _⟩
  · refine ⟨.map none, fun _ => none, 0, hcs, fun W' _ k hk => ?_, fun W' _ => Maps.len_nil Tryd.underlying26 3⟩
    have hkey := Maps.keyOf_int_mk Tryd.underlying2 hk
    exact ⟨by simpa using Maps.look_nil true mapLaw Tryd.underlying26 (zero78 W') hkey, by simpa using Maps.look_nil false mapLaw Tryd.underlying26 (zero78 W') hkey⟩
  · have hbl : b < W.heap.size := (Array.getElem?_eq_some_iff.1 hb).1
    refine ⟨.map (some b), fun k => Classical.epsilon (fun o => ∀ W', Below W.heap.size W W' → LookAt W' (.map (some b)) k o), es.size, hcs, fun W' hW k hk => ?_, fun W' hW => ?_⟩
    · exact Classical.epsilon_spec (look_of hb F k hk) W' hW
    · have hb' : W'.heap[b]? = some (.map es clock) := (hW.block b hbl).trans hb
      exact run_len_map W' 26 3 b es clock (by simp [Program.mapKeyOf, Program.mapElemOf, Tryd.underlying26]) hb'
end
end Go.Proofs.Qxb6613124aDoor
