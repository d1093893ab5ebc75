/-
  Seat b6003829aD: the inputs opened; what the listed variables hold.
-/
import Derived.Test.Qxb6003829aDoorRows
import Derived.Test.Qxb6003829aDoorLawB
import Derived.ProofKit
import Derived.PinnedBridge
import Derived.LaidLaws
import Derived.OpenVars
import Derived.Lib.SmallJoins
import Derived.Lib.LaidU8T
import Derived.Lay
namespace Go.Proofs.Qxb6003829aDoor
open Go.ChangeShapes Go.WideShapes Go.ChangeAt Go.RowKit

theorem own : ownKnob Tryd.prog.godebug = none := by kernel_rfl
theorem laidOut : laidOutB Tryd.prog = true := by kernel_rfl
theorem cells36 : Tryd.prog.cellsOf 36 = 5 := by kernel_rfl
theorem cells9 : Tryd.prog.cellsOf 9 = 1 := by kernel_rfl
theorem cells23 : Tryd.prog.cellsOf 23 = 1 := by kernel_rfl
theorem cells5 : Tryd.prog.cellsOf 5 = 1 := by kernel_rfl
theorem cells4 : Tryd.prog.cellsOf 4 = 1 := by kernel_rfl
theorem cells70 : Tryd.prog.cellsOf 70 = 256 := by kernel_rfl

/-! ### the listed variables -/
theorem iface_reads {W : World} {n : String} {g : Nat} {nm : String} {d : DataW Unit} (hn : Tryd.prog.globalNamed n = some g) (hy : (Tryd.prog.globals[g]?).map (·.type) = some 30) (h : Lib.VarReads Tryd.prog W n (.iface nm d)) : ∃ t p, W.cell? ⟨g, 0, none⟩ = some (.iface t p) := by
  obtain ⟨g', t, cs, fuel, p, hg, ht, hv, hd⟩ := h
  obtain rfl := Option.some.inj (hn.symm.trans hg)
  obtain rfl := Option.some.inj (hy.symm.trans ht)
  obtain ⟨_, u, v, hc, _, _⟩ := iface_of_trod Tryd.underlying30 hd
  refine ⟨u, v, ?_⟩
  rw [World.var?_cell hg hv 0, ← Array.getElem?_toList, hc]
  rfl

theorem space_data : (Rows.laid_bytes_asciiSpace : DataW Unit) = Lib.tabData .u8 Lib.asciiSpaceTab := by kernel_rfl
theorem tab_reads {W : World} (h : Lib.VarReads Tryd.prog W "bytes.asciiSpace" Rows.laid_bytes_asciiSpace) : Lib.TabIs Tryd.prog W "bytes.asciiSpace" .u8 Lib.asciiSpaceTab := by
  obtain ⟨g, t, cs, fuel, p, hg, ht, hv, hd⟩ := h
  obtain rfl := Option.some.inj (space_named.symm.trans hg)
  obtain rfl := Option.some.inj ((show (Tryd.prog.globals[1]?).map (·.type) = some 70 by kernel_rfl).symm.trans ht)
  rw [space_data] at hd
  have hcs := Lib.cells_of_tab Tryd.underlying70 Tryd.underlying5 cells5 cells70 hd
  unfold Lib.TabIs
  rw [hv, ← hcs]

/-- The numbers of the utf8 tables' types and variables. -/
def u8ren : Go.Shelf.Ren := ⟨id, fun | 119 => 70 | 138 => 110 | 139 => 111 | n => n, fun | 3 => 5 | 4 => 6 | n => n⟩
theorem u8types : U8Types Tryd.prog u8ren := ⟨Tryd.underlying5, Tryd.underlying70, Tryd.underlying110, Tryd.underlying111⟩
theorem utf_reads {W : World} (h3 : Lib.VarReads Tryd.prog W "unicode/utf8.first" Rows.laid_unicode_utf8_first) (h4 : Lib.VarReads Tryd.prog W "unicode/utf8.acceptRanges" Rows.laid_unicode_utf8_acceptRanges) : Lib.Utf8Tabs 5 6 W :=
  utf8Tabs_of_readsT u8types ⟨by kernel_rfl, by kernel_rfl, by kernel_rfl, by kernel_rfl, by kernel_rfl, by kernel_rfl, by kernel_rfl⟩ (Pinned.utf8First_eq ▸ h3) ((show (Rows.laid_unicode_utf8_acceptRanges : DataW Unit) = Lib.acceptData by kernel_rfl) ▸ h4)
theorem white_reads {W : World} (h : Lib.VarReads Tryd.prog W "unicode.White_Space" Rows.laid_unicode_White_Space) : Lib.WhiteTab 2 W :=
  whiteTab_of_reads Tryd.lays199 ⟨by kernel_rfl, by kernel_rfl, by kernel_rfl, by kernel_rfl, by kernel_rfl, by kernel_rfl, by kernel_rfl, by kernel_rfl⟩ ((show (Rows.laid_unicode_White_Space : DataW Unit) = Lib.whiteData by kernel_rfl) ▸ h)

theorem env_of {W : World} (h : laidMet Tryd.prog Rows.propMembersInvertArEncodingAndTileRow.laid W) : Env W where
  trunc := iface_reads (show Tryd.prog.globalNamed "example.com/shroudpack/shroudpack/pkg/archive.errTruncated" = some 0 by kernel_rfl) (by kernel_rfl) (Lib.laidMet.reads h (.tail _ (.tail _ (.tail _ (.tail _ (.tail _ (.tail _ (.tail _ (.tail _ (.head _))))))))))
  tab := tab_reads (Lib.laidMet.reads h (.tail _ (.tail _ (.tail _ (.tail _ (.tail _ (.tail _ (.tail _ (.head _)))))))))
  utf := utf_reads (Lib.laidMet.reads h (.tail _ (.tail _ (.tail _ (.tail _ (.tail _ (.tail _ (.tail _ (.tail _ (.tail _ (.head _))))))))))) (Lib.laidMet.reads h (.tail _ (.tail _ (.tail _ (.head _)))))
  white := white_reads (Lib.laidMet.reads h (.tail _ (.tail _ (.tail _ (.tail _ (.tail _ (.tail _ (.head _))))))))
  esyn := iface_reads (show Tryd.prog.globalNamed "strconv.ErrSyntax" = some 3 by kernel_rfl) (by kernel_rfl) (Lib.laidMet.reads h (.tail _ (.tail _ (.tail _ (.tail _ (.tail _ (.head _)))))))
  erng := iface_reads (show Tryd.prog.globalNamed "strconv.ErrRange" = some 4 by kernel_rfl) (by kernel_rfl) (Lib.laidMet.reads h (.tail _ (.tail _ (.tail _ (.tail _ (.head _))))))

/-! ### the inputs -/
/-- What is there for each place is there as a list. -/
theorem list_of {α : Type} {Q : Nat → α → Prop} : ∀ (n : Nat), (∀ i, i < n → ∃ v, Q i v) → ∃ vs : List α, vs.length = n ∧ ∀ (i : Nat) (h : i < vs.length), Q i vs[i]
  | 0, _ => ⟨[], rfl, fun i h => by cases h⟩
  | n + 1, h => by
    obtain ⟨vs, hl, hv⟩ := list_of n (fun i hi => h i (by omega))
    obtain ⟨v, hq⟩ := h n (by omega)
    refine ⟨vs ++ [v], by simp [hl], fun i hi => ?_⟩
    by_cases e : i < vs.length
    · rw [List.getElem_append_left e]; exact hv i e
    · have e2 : i = n := by simp at hi; omega
      subst e2
      rw [List.getElem_append_right (by omega)]
      simpa [hl] using hq

theorem byte_of {z : Int} (h : (Lit.int .u8 z).wf = true) : ∃ b : UInt8, z = (b.toNat : Int) := by
  simp only [Lit.wf, Bool.and_eq_true, decide_eq_true_eq] at h
  have h1 : (0 : Int) ≤ z := h.1
  have h2 : z ≤ 255 := h.2
  refine ⟨UInt8.ofNat z.toNat, ?_⟩
  rw [UInt8.toNat_ofNat']
  omega

section
variable {H : Type} {enc : TypeId × Value → H} {W : World} {base : Nat} {sp : Nat → Bool} {held : Bool}

theorem bytes_of {fuel : Nat} {cs : List Value} {x : DataW H × List MemPlace} (h : DataW.trod enc Tryd.prog W base sp held fuel 23 cs = some x) : ∃ (p : Option Addr) (l : List UInt8) (cap : Nat), cs = [.slice p l.length cap] ∧ Sl W p l ∧ l.length ≤ cap := by
  rcases Deep.open_slice Tryd.underlying23 h with ⟨hcs, _⟩ | ⟨a, len, cap, m, n, D, Pl, hcs, _, hl, _, hm, _, hel⟩
  · exact ⟨none, [], 0, hcs, Sl.nil _ _, Nat.le_refl _⟩
  · have hlm : len ≤ m := by rw [hm]; split <;> omega
    rw [cells5] at hel
    obtain ⟨l, hll, hq⟩ := list_of (Q := fun i (b : UInt8) => W.cell? (a.add i) = some (.int .u8 (b.toNat : Int))) len (fun i hi => by
      obtain ⟨cs', hc', ht'⟩ := hel i (by omega)
      obtain ⟨z, rfl, _, hw⟩ := DataW.trod_int Tryd.underlying5 ht'
      obtain ⟨b, rfl⟩ := byte_of hw
      obtain ⟨_, _, hcc⟩ := World.cells?_some hc'
      have k0 := hcc 0 (by omega)
      refine ⟨b, ?_⟩
      simpa [Addr.add] using k0)
    refine ⟨some a, l, cap, by rw [hcs, hll], fun h0 => ?_, by omega⟩
    obtain ⟨b, o, spot⟩ := a
    have hspot : spot = none := by
      have k0 := hq 0 h0
      have e : (Addr.add ⟨b, o, spot⟩ 0) = ⟨b, o, spot⟩ := by simp [Addr.add]
      rw [e] at k0
      exact cell_spot k0
    subst hspot
    refine ⟨b, o, rfl, fun j hj => ?_⟩
    rw [← add_at]
    exact hq j hj

theorem list5 {α : Type} : ∀ {l : List α}, l.length = 5 → ∃ a b c d e, l = [a, b, c, d, e]
  | [a, b, c, d, e], _ => ⟨a, b, c, d, e, rfl⟩

theorem struct5 {P : Program} {t : TypeId} {f0 f1 f2 f3 f4 : Field} {fuel : Nat} {cs : List Value} {x : DataW H × List MemPlace} (ht : P.underlying t = some (.struct #[f0, f1, f2, f3, f4])) (h : DataW.trod enc P W base sp held fuel t cs = some x) :
    ∃ y0 y1 y2 y3 y4 n, cs.length = P.cellsOf t ∧ DataW.trod enc P W base sp held n f0.type ((cs.drop f0.offset).take (P.cellsOf f0.type)) = some y0 ∧
      DataW.trod enc P W base sp held n f1.type ((cs.drop f1.offset).take (P.cellsOf f1.type)) = some y1 ∧ DataW.trod enc P W base sp held n f2.type ((cs.drop f2.offset).take (P.cellsOf f2.type)) = some y2 ∧
      DataW.trod enc P W base sp held n f3.type ((cs.drop f3.offset).take (P.cellsOf f3.type)) = some y3 ∧ DataW.trod enc P W base sp held n f4.type ((cs.drop f4.offset).take (P.cellsOf f4.type)) = some y4 := by
  obtain ⟨xs, n, _, rfl, hl, hlen, hf⟩ := DataW.trod_struct ht h
  match xs, hlen with
  | [y0, y1, y2, y3, y4], _ => exact ⟨y0, y1, y2, y3, y4, n, hl, by simpa using hf 0 f0 rfl, by simpa using hf 1 f1 rfl, by simpa using hf 2 f2 rfl, by simpa using hf 3 f3 rfl, by simpa using hf 4 f4 rfl⟩

theorem mem_of {fuel b o : Nat} {cs : List Value} {x : DataW H × List MemPlace} (hc : W.cells? base ⟨b, o, none⟩ 5 = some cs) (h : DataW.trod enc Tryd.prog W base sp held fuel 36 cs = some x) : ∃ m : Mem, MAt W b o m := by
  obtain ⟨y0, y1, y2, y3, y4, n, hl, h0, h1, h2, h3, h4⟩ := struct5 Tryd.underlying36 h
  obtain ⟨_, _, hcc⟩ := World.cells?_some hc
  rw [cells36] at hl
  obtain ⟨c0, c1, c2, c3, c4, rfl⟩ := list5 hl
  simp only [cells9, cells23, cells5, cells4] at h0 h1 h2 h3 h4
  obtain ⟨s, e0, _, _⟩ := DataW.trod_string Tryd.underlying9 h0
  obtain ⟨pd, d, cd, e1, hSd, hcd⟩ := bytes_of h1
  obtain ⟨pf, f, cf, e2, hSf, hcf⟩ := bytes_of h2
  obtain ⟨z, e3, _, hw⟩ := DataW.trod_int Tryd.underlying5 h3
  obtain ⟨q, e4, _⟩ := DataW.trod_bool Tryd.underlying4 h4
  obtain ⟨pb, rfl⟩ := byte_of hw
  simp at e0 e1 e2 e3 e4
  subst e0 e1 e2 e3 e4
  have k0 := hcc 0 (by omega)
  have k1 := hcc 1 (by omega)
  have k2 := hcc 2 (by omega)
  have k3 := hcc 3 (by omega)
  have k4 := hcc 4 (by omega)
  simp [Addr.add] at k0 k1 k2 k3 k4
  have hs : ByteArray.mk s.data.toList.toArray = s := by cases s; simp
  exact ⟨⟨s.data.toList, d, f, pb, q⟩, pd, cd, pf, cf, by rw [hs]; exact k0, k1, k2, k3, k4, hSd, hSf, hcd, hcf⟩

/-- The slice of members. -/
theorem mems_of {fuel : Nat} {cs : List Value} {x : DataW H × List MemPlace} (h : DataW.trod enc Tryd.prog W base sp held fuel 22 cs = some x) :
    ∃ (a : Option Addr) (b o : Nat) (ms : List Mem) (cp : Nat), cs = [.slice a ms.length cp] ∧ (0 < ms.length → a = some ⟨b, o, none⟩) ∧ MCells W b o ms := by
  rcases Deep.open_slice Tryd.underlying22 h with ⟨hcs, _⟩ | ⟨a, len, cap, m, n, D, Pl, hcs, _, hl, _, hm, _, hel⟩
  · exact ⟨none, 0, 0, [], 0, hcs, fun h => by simp at h, fun j hj => by simp at hj⟩
  · have hlm : len ≤ m := by rw [hm]; split <;> omega
    rw [cells36] at hel
    obtain ⟨b, o, spot⟩ := a
    by_cases h0 : len = 0
    · subst h0
      exact ⟨some ⟨b, o, spot⟩, b, o, [], cap, hcs, fun h => by simp at h, fun j hj => by simp at hj⟩
    · have hspot : spot = none := by
        obtain ⟨cs', hc', _⟩ := hel 0 (by omega)
        obtain ⟨_, hcl, hcc⟩ := World.cells?_some hc'
        have k0 := hcc 0 (by omega)
        rw [List.getElem?_eq_getElem (by omega)] at k0
        have e : (Addr.add (Addr.add ⟨b, o, spot⟩ (0 * 5)) 0) = ⟨b, o, spot⟩ := by simp [Addr.add]
        rw [e] at k0
        exact cell_spot k0
      subst hspot
      obtain ⟨ms, hvl, hvs⟩ := list_of (Q := fun i v => MAt W b (o + i * 5) v) len (fun i hi => by
        obtain ⟨cs', hc', ht'⟩ := hel i (by omega)
        rw [add_at] at hc'
        exact mem_of hc' ht')
      subst hvl
      exact ⟨_, b, o, ms, cap, hcs, fun _ => rfl, hvs⟩
end
end Go.Proofs.Qxb6003829aDoor
