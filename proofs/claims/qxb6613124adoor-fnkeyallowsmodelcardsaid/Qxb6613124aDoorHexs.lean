/-
  THE WALKS of zzASCIILower (81), zzFoldEq (71), zzHex (70), hex.EncodeToString at no bytes (63).
-/
import Derived.Test.Qxb6613124aDoorShelf
import Derived.Test.Qxb6613124aDoorEqf
import Derived.Deep.OwnRows
import Derived.Deep.QuietTactic
import Derived.BigQuiet
namespace Go.Proofs.Qxb6613124aDoor
open Go.RowKit

set_option maxHeartbeats 400000 in
set_option maxRecDepth 100000 in
theorem asciiLower (c : UInt8) (w : World) : Calls Tryd.prog 81 #[.int .u8 c.toNat] w fun e w' => e = .returned (.int .u8 (lowB c)) ∧ w' = w := by
  have hc := c.toNat_lt
  by_cases h1 : c.toNat < 65
  · go_enter Tryd.func81, Tryd.ntmps81
    go_wp2
    go_ret
    exact ⟨by unfold lowB; rw [if_neg (by omega)]; rfl, rfl⟩
  by_cases h2 : c.toNat ≤ 90
  · go_enter Tryd.func81, Tryd.ntmps81
    go_wp2
    go_ret
    exact ⟨by unfold lowB; rw [if_pos (by omega)]; first | rfl | simp, rfl⟩
  · go_enter Tryd.func81, Tryd.ntmps81
    go_wp2
    go_ret
    exact ⟨by unfold lowB; rw [if_neg (by omega)]; rfl, rfl⟩

theorem hexC_low {c : UInt8} (h : hexC c.toNat) : lowB c = c.toNat := by
  unfold hexC at h
  unfold lowB
  rw [if_neg (by omega)]

set_option maxHeartbeats 400000 in
set_option maxRecDepth 100000 in
theorem foldEq (v h : ByteArray) (w : World) (hv : v.size ≤ 4194304) (hh : Hid (Hexed h)) : Calls Tryd.prog 71 #[.string v, .string h] w fun e w' => e = .returned (.bool (foldHex v.data.toList h.data.toList)) ∧ Below w.heap.size w w' := by
  by_cases hz : v.size = h.size
  · have hzb : ((v.size : Int) == (h.size : Int)) = true := beq_iff_eq.2 (by omega)
    have hzn : ((v.size : Int) != (h.size : Int)) = false := by simp; omega
    go_enter Tryd.func71, Tryd.ntmps71
    go_wp2
    go_loopw [5] (fun sj wr => ∃ k : Nat, k ≤ v.size ∧ sj = .int .i64 k ∧ Hid ((v.data.toList.take k).map lowB = (h.data.toList.take k).map UInt8.toNat) ∧ Below w.heap.size w wr) (fun j _ => v.size - (intOf j).toNat)
    case atStart => exact ⟨0, Nat.zero_le _, rfl, hid (by simp), Below.refl _ _⟩
    case round =>
      obtain ⟨k, hk, rfl, hrel, hB⟩ := hrel
      by_cases hlt : k < v.size
      · have hlt' : k < h.size := by omega
        obtain ⟨x, hx⟩ : ∃ x : UInt8, v[k]'(by omega) = x := ⟨_, rfl⟩
        obtain ⟨y, hy⟩ : ∃ y : UInt8, h[k]'(by omega) = y := ⟨_, rfl⟩
        have hyx := hid (hexC_low (hh.out k hlt'))
        rw [hy] at hyx
        have hlxy : lowB y < 256 := by rw [hyx.out]; exact y.toNat_lt
        have hs := hid (hx_snoc v h k hlt hlt' hrel.out)
        have hno := hid (hx_no v h k hlt hlt')
        rw [hx, hy] at hs hno
        by_cases he : lowB x = lowB y
        · have heb : ((lowB x : Int) != (lowB y : Int)) = false := by simp; omega
          go_wp2
          go_quiet ((go_at_call 81; refine Calls.quiet_of_same (asciiLower _ _)))
          go_wp2
          exact ⟨⟨k + 1, by omega, by go_num, hid (hs.out (he.trans hyx.out)), hB.trans ⟨rfl, rfl, rfl, Nat.le_refl _, fun _ _ => rfl⟩⟩, by simp [intOf]; omega⟩
        · have heb : ((lowB x : Int) != (lowB y : Int)) = true := by simp; omega
          go_wp2
          go_quiet ((go_at_call 81; refine Calls.quiet_of_same (asciiLower _ _)))
          go_wp2
          go_ret
          exact ⟨ret_bool (hno.out (fun e => he (e.trans hyx.out.symm))).symm, hB.trans ⟨rfl, rfl, rfl, Nat.le_refl _, fun _ _ => rfl⟩⟩
      · obtain rfl : k = v.size := by omega
        go_wp2
        go_ret
        exact ⟨ret_bool (hx_yes v h hz.symm hrel.out).symm, hB⟩
  · have hzb : ((v.size : Int) == (h.size : Int)) = false := beq_eq_false_iff_ne.2 (by omega)
    have HN := hid (hx_len v.data.toList h.data.toList (by simp; omega))
    go_enter Tryd.func71, Tryd.ntmps71
    go_wp2
    go_ret
    exact ⟨ret_bool HN.out.symm, Below.refl _ _⟩

/-- The slice's address p holds the bytes l. -/
def BytesAt (W : World) (p : Option Addr) (l : List UInt8) : Prop := 0 < l.length → ∃ b o, p = some ⟨b, o, none⟩ ∧ ∀ (j : Nat) (h : j < l.length), W.cell? ⟨b, o + j, none⟩ = some (.int .u8 (l[j].toNat : Int))
theorem BytesAt.below {W W' : World} {p : Option Addr} {l : List UInt8} (h : BytesAt W p l) (hb : Below W.heap.size W W') : BytesAt W' p l := fun h0 => by
  obtain ⟨b, o, e, hc⟩ := h h0
  exact ⟨b, o, e, fun j hj => (hb.cell (p := ⟨b, o + j, none⟩) (block_lt_of_cell (hc j hj))).trans (hc j hj)⟩

theorem info5 : (Tryd.prog.info? 5).map (fun i => (i.zero, i.size, i.bytes)) = some (some (.int .u8 0), 1, 1) := by kernel_rfl
theorem make_bytes (n : Nat) (h : n ≤ 4194304) (w : World) :
    (Instr.makeSlice 78 (.int .i64 n) (.int .i64 n)).run Tryd.prog w = .ok (.slice (some ⟨w.heap.size, 0, none⟩) n n) (w.alloc (.cells (madeCells #[.int .u8 0] n) 5)) := by
  obtain ⟨i, hi, hz0, hz1, hz2⟩ := info_parts info5
  exact run_make_row 78 5 i (.int .u8 0) Tryd.underlying78 hi hz0 hz1 rfl .i64 .i64 n (by rw [hz2]; omega) (by omega) w

/-- The hexadecimal text. -/
def hexS (l : List UInt8) : ByteArray := ⟨(Lib.Hx.encode l).toArray⟩

theorem dig_at (d : Nat) (h : d < 16) : ((⟨#[48, 49, 50, 51, 52, 53, 54, 55, 56, 57, 97, 98, 99, 100, 101, 102]⟩ : ByteArray)[d]'h).toNat = (Lib.Hx.digit d).toNat := by
  have k : ∀ d : Fin 16, ((⟨#[48, 49, 50, 51, 52, 53, 54, 55, 56, 57, 97, 98, 99, 100, 101, 102]⟩ : ByteArray)[d.1]'d.2).toNat = (Lib.Hx.digit d.1).toNat := by decide
  exact k ⟨d, h⟩

def HexRow (w : World) (l : List UInt8) (k : Nat) (W : World) : Prop := W.rowIs w.heap.size 5 (2 * l.length) (Lib.Hx.row (fun _ => .int .u8 0) 0 l k) ∧ Below w.heap.size w W

set_option maxHeartbeats 800000 in
set_option maxRecDepth 100000 in
theorem zzHex (l : List UInt8) (p : Option Addr) (cp : Nat) (w : World) (hl : l.length ≤ 1048576) (hb : Hid (BytesAt w p l)) :
    Calls Tryd.prog 70 #[.slice p l.length cp] w fun e w' => e = .returned (.string (hexS l)) ∧ Below w.heap.size w w' := by
  have hmk := fun w => make_bytes (2 * l.length) (by omega) w
  rw [show (((2 * l.length : Nat)) : Int) = 2 * (l.length : Int) by omega] at hmk
  go_enter Tryd.func70, Tryd.ntmps70
  go_wp2
  go_loopw [4] (fun sj wr => ∃ k : Nat, k ≤ l.length ∧ sj = .int .i64 k ∧ Hid (HexRow w l k wr)) (fun j _ => l.length - (intOf j).toNat)
  case atStart => exact ⟨0, Nat.zero_le _, rfl, hid ⟨(World.rowIs_made w (.int .u8 0) (2 * l.length) 5).congr (fun j _ => Lib.Hx.row_zero (fun _ => .int .u8 0) 0 l j), (Below.refl _ _).alloc (Nat.le_refl _) _⟩⟩
  case round =>
    obtain ⟨k, hk, rfl, hrel⟩ := hrel
    obtain ⟨hrow, hB⟩ := hrel.out
    clear hmk
    by_cases hlt : k < l.length
    · obtain ⟨b, o, rfl, hc⟩ := hb.out (by omega)
      have hck := (hB.cell (p := ⟨b, o + k, none⟩) (block_lt_of_cell (hc k hlt))).trans (hc k hlt)
      have hbw : b ≠ w.heap.size := by have := block_lt_of_cell (hc k hlt); simp at this; omega
      obtain ⟨x, hx⟩ : ∃ x : UInt8, l[k] = x := ⟨_, rfl⟩
      rw [hx] at hck
      have hx0 : (0 : Int) ≤ (x.toNat : Int) := by omega
      have hx1 : (x.toNat : Int) < 256 := by have := x.toNat_lt; omega
      have HX := hid (show l[k]? = some x by rw [List.getElem?_eq_getElem hlt, hx])
      clear hx hc
      have hf1 : wr.frozen? ⟨w.heap.size, 2 * k, none⟩ = false := hrow.frozen _
      have hc1 : wr.cell? ⟨w.heap.size, 2 * k, none⟩ = some (Lib.Hx.row (fun _ => .int .u8 0) 0 l k (2 * k)) := hrow.cell (by omega)
      have hf2 : ∀ v, (wr.setCell ⟨w.heap.size, 2 * k, none⟩ v).frozen? ⟨w.heap.size, 2 * k + 1, none⟩ = false := fun v => (hrow.set _ v).frozen _
      have hc2 : ∀ v, (wr.setCell ⟨w.heap.size, 2 * k, none⟩ v).cell? ⟨w.heap.size, 2 * k + 1, none⟩ = some (Lib.Hx.row (fun _ => .int .u8 0) 0 l k (2 * k + 1)) := fun v => by
        have := (hrow.set (2 * k) v).cell (i := 2 * k + 1) (by omega)
        rwa [if_neg (by omega)] at this
      have hc3 : ∀ v, (wr.setCell ⟨w.heap.size, 2 * k, none⟩ v).cell? ⟨b, o + k, none⟩ = some (.int .u8 (x.toNat : Int)) := fun v => by
        have e := Go.Deep.blk_setCell_other wr ⟨w.heap.size, 2 * k, none⟩ v b hbw
        simpa only [World.cell?, e] using hck
      have hrow' := hid hrow
      have hB' := hid hB
      clear hrow hB hrel
      go_wp2
      refine ⟨⟨k + 1, by omega, by go_num, hid ⟨((hrow'.out.set (2 * k) _).set (2 * k + 1) _).congr (fun j _ => ?_), (hB'.out.setCell (p := ⟨w.heap.size, 2 * k, none⟩) (Nat.le_refl _) _).setCell (p := ⟨w.heap.size, 2 * k + 1, none⟩) (Nat.le_refl _) _⟩⟩, by simp [intOf]; omega⟩
      have e3 := Lib.Hx.row_step (fun _ => .int .u8 0) 0 l k x HX.out j
      simp only [Nat.zero_add] at e3
      rw [← e3, ← dig_at _ (Nat.mod_lt _ (by omega)), ← dig_at _ (by have := x.toNat_lt; omega)]
    · obtain rfl : k = l.length := by omega
      have g := run_convert_bytes_arg (P := Tryd.prog) wr 78 5 Tryd.underlying78 Tryd.underlying5 w.heap.size 0 (2 * l.length) (2 * l.length) (Lib.Hx.nums l) (by rw [Lib.Hx.nums_length]) (fun i hi => by rw [Nat.zero_add, hrow.cell hi, Lib.Hx.row_in _ _ _ _ hi]) 9 Tryd.underlying9
      have HB := hid hB
      clear hrow hB hrel
      go_wp2
      go_ret
      exact ⟨by unfold hexS; rw [← Lib.Hx.strOfNums_nums]; rfl, HB.out⟩
end Go.Proofs.Qxb6613124aDoor
