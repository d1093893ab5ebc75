/-
  Seat b6003829aD: the walk of zza1ArHeader (11).
-/
import Derived.Test.Qxb6003829aDoorItoa
import Derived.Lib.LazyBuf
namespace Go.Proofs.Qxb6003829aDoor
open Go.RowKit Go.Lib

/-! ### bytes written over bytes -/
def put (h : List UInt8) (o : Nat) (l : List UInt8) : List UInt8 := h.take o ++ (l ++ h.drop (o + l.length))

theorem put_len {h : List UInt8} {o : Nat} {l : List UInt8} (hl : o + l.length ≤ h.length) : (put h o l).length = h.length := by
  unfold put
  rw [List.length_append, List.length_append, List.length_take, List.length_drop]
  omega
theorem put_left {a b : List UInt8} {o : Nat} {l : List UInt8} (h : o + l.length ≤ a.length) : put (a ++ b) o l = put a o l ++ b := by
  unfold put
  rw [List.take_append_of_le_length (by omega), List.drop_append_of_le_length h, List.append_assoc, List.append_assoc]
theorem put_right {a b : List UInt8} {o : Nat} {l : List UInt8} (h : a.length ≤ o) : put (a ++ b) o l = a ++ put b (o - a.length) l := by
  obtain ⟨k, rfl⟩ : ∃ k, o = a.length + k := ⟨o - a.length, by omega⟩
  unfold put
  rw [List.take_append, List.take_of_length_le (by omega), List.append_assoc, Nat.add_sub_cancel_left, Nat.add_assoc, List.drop_append, List.drop_eq_nil_of_le (by omega), List.nil_append, Nat.add_sub_cancel_left]
theorem put_all (a l : List UInt8) : put a 0 l = l ++ a.drop l.length := by unfold put; simp
theorem put_at (h : List UInt8) (o : Nat) (l : List UInt8) (hl : o + l.length ≤ h.length) (j : Nat) (hj : j < h.length) :
    (put h o l).getD j 0 = if o ≤ j ∧ j < o + l.length then l.getD (j - o) 0 else h.getD j 0 := by
  unfold put
  simp only [List.getD_eq_getElem?_getD, List.getElem?_append, List.length_take, List.getElem?_take, List.getElem?_drop]
  by_cases h1 : j < o
  · rw [if_pos (by omega), if_pos h1, if_neg (by omega)]
  · rw [if_neg (by omega)]
    by_cases h2 : j < o + l.length
    · rw [if_pos (by omega), if_pos (by omega), show j - min o h.length = j - o by omega]
    · rw [if_neg (by omega), if_neg (by omega), show o + l.length + (j - min o h.length - l.length) = j by omega]

def blanks (n : Nat) : List UInt8 := List.replicate n 32
theorem blanks_len (n : Nat) : (blanks n).length = n := List.length_replicate
theorem blanks_split : blanks 60 = blanks 16 ++ (blanks 32 ++ (blanks 10 ++ blanks 2)) := by decide
theorem blanks_drop (n k : Nat) : (blanks n).drop k = blanks (n - k) := by unfold blanks; rw [List.drop_replicate]
theorem blanks_take (n k : Nat) (h : k ≤ n) : (blanks n).take k = blanks k := by unfold blanks; rw [List.take_replicate, Nat.min_eq_left h]

/-- The name is written. -/
theorem put_name {m : Mem} (h : m.Ok) : put (blanks 60) 0 m.name = nameField m ++ (blanks 32 ++ (blanks 10 ++ blanks 2)) := by
  rw [blanks_split, put_left (by rw [blanks_len]; have := h.1; omega), put_all, blanks_drop]
  rfl
theorem put_mid {m : Mem} (h : m.Ok) (r x : List UInt8) (hx : x.length = 32) : put (nameField m ++ (blanks 32 ++ r)) 16 x = nameField m ++ (x ++ r) := by
  have e := nameField_len h
  rw [put_right (by omega), e, Nat.sub_self, put_left (by rw [blanks_len]; omega), put_all, blanks_drop, hx]
  simp [blanks]
theorem put_end {m : Mem} (h : m.Ok) (x y : List UInt8) (hx : x.length = 32) (hy : y.length = 2) : put (nameField m ++ (x ++ (blanks 10 ++ blanks 2))) 58 y = nameField m ++ (x ++ (blanks 10 ++ y)) := by
  have e := nameField_len h
  rw [put_right (by omega), e, put_right (by omega), hx, put_right (by rw [blanks_len]; omega), blanks_len, put_all, blanks_drop, hy]
  simp [blanks]
theorem put_usual {m : Mem} (h : m.Ok) : put (put (put (nameField m ++ (blanks 32 ++ (blanks 10 ++ blanks 2))) 16 [48]) 58 [96]) 59 [10] = nameField m ++ ((48 :: blanks 31) ++ (blanks 10 ++ [96, 10])) := by
  have e := nameField_len h
  rw [put_right (by omega), e, put_right (by omega), e, put_right (by omega), e]
  congr 1
theorem put_size {m : Mem} (h : m.Ok) (x y : List UInt8) (hx : x.length = 32) : put (nameField m ++ (x ++ (blanks 10 ++ y))) (if m.left then 58 - (decDigits m.data.length).length else 48) (decDigits m.data.length) =
    nameField m ++ (x ++ (sizeField m.data.length m.left ++ y)) := by
  have e := nameField_len h
  have hd := digits_short h.2.2.1
  cases hm : m.left with
  | true =>
    simp only [if_true]
    rw [put_right (by omega), e, put_right (by omega), hx, put_left (by rw [blanks_len]; omega)]
    unfold put sizeField
    simp only [if_true]
    rw [blanks_drop, blanks_take _ _ (by omega), show 10 - (58 - (decDigits m.data.length).length - 16 - 32 + (decDigits m.data.length).length) = 0 by omega, show 58 - (decDigits m.data.length).length - 16 - 32 = 10 - (decDigits m.data.length).length by omega]
    simp [blanks]
  | false =>
    simp only [Bool.false_eq_true, if_false]
    rw [put_right (by omega), e, put_right (by omega), hx, put_left (by rw [blanks_len]; omega), show 48 - 16 - 32 = 0 from rfl, put_all, blanks_drop]
    rfl

/-! ### what the memory holds -/
/-- The header's block, and the parameter's box. -/
structure HW (w : World) (m : Mem) (pd pf : Option Addr) (cd cf : Nat) (h : List UInt8) (W : World) : Prop where
  c0 : W.cell? ⟨w.heap.size, 0, none⟩ = some (.string ⟨m.name.toArray⟩)
  c1 : W.cell? ⟨w.heap.size, 1, none⟩ = some (.slice pd m.data.length cd)
  c2 : W.cell? ⟨w.heap.size, 2, none⟩ = some (.slice pf m.free.length cf)
  c4 : W.cell? ⟨w.heap.size, 4, none⟩ = some (.bool m.left)
  len : h.length = 60
  row : W.rowIs (w.heap.size + 1) 5 60 fun j => .int .u8 ((h.getD j 0).toNat : Int)
  bel : Below w.heap.size w W

theorem cell_setCells_other {b b' i : Nat} (hne : b' ≠ b) : ∀ (vs : List Value) (o : Nat) (w : World), (w.setCells b o vs).cell? ⟨b', i, none⟩ = w.cell? ⟨b', i, none⟩
  | [], _, _ => rfl
  | v :: r, o, w => (cell_setCells_other hne r (o + 1) _).trans (World.cell?_of_block (w := w) (Below.heap_setCell w ⟨b, o, none⟩ v b' hne))

section
variable {w W : World} {m : Mem} {pd pf : Option Addr} {cd cf : Nat} {h : List UInt8}
theorem HW.drew (H : HW w m pd pf cd cf h W) : HW w m pd pf cd cf h W.drew := ⟨H.c0, H.c1, H.c2, H.c4, H.len, H.row.drew, H.bel.drew⟩
theorem HW.put (H : HW w m pd pf cd cf h W) (o : Nat) (l : List UInt8) (hl : o + l.length ≤ 60) : HW w m pd pf cd cf (put h o l) (W.setCells (w.heap.size + 1) o (bcells l)) := by
  have hne : w.heap.size ≠ w.heap.size + 1 := by omega
  have hlen := H.len
  refine ⟨(cell_setCells_other hne _ _ _).trans H.c0, (cell_setCells_other hne _ _ _).trans H.c1, (cell_setCells_other hne _ _ _).trans H.c2, (cell_setCells_other hne _ _ _).trans H.c4, by rw [put_len (by omega)]; exact hlen, ?_, below_setCells (by omega) _ _ _ H.bel⟩
  refine (rowIs_setCells (bcells l) o W _ H.row).congr fun j hj => ?_
  rw [put_at h o l (by omega) j (by omega), bcells_len]
  by_cases hc : o ≤ j ∧ j < o + l.length
  · rw [if_pos hc, if_pos hc]
    have : j - o < l.length := by omega
    simp [bcells, this]
  · rw [if_neg hc, if_neg hc]
theorem HW.below {W' : World} (H : HW w m pd pf cd cf h W) (hb : Below W.heap.size W W') : HW w m pd pf cd cf h W' := by
  have l0 : w.heap.size < W.heap.size := World.block_lt_of_cell? W _ H.c0
  exact ⟨cell_below hb H.c0, cell_below hb H.c1, cell_below hb H.c2, cell_below hb H.c4, H.len, H.row.of_block (hb.block _ H.row.lt), H.bel.trans (hb.mono H.bel.size)⟩
theorem HW.bytes (H : HW w m pd pf cd cf h W) : Bs W (w.heap.size + 1) 0 h := fun j hj => by
  have := H.len
  rw [Nat.zero_add, H.row.cell (i := j) (by omega)]
  simp [List.getD, hj]
end

theorem make_60 (w : World) : (Instr.makeSlice 23 (.int .i64 60) (.int .i64 60)).run Tryd.prog w = .ok (.slice (some ⟨w.heap.size, 0, none⟩) 60 60) (w.alloc (.cells (madeCells #[.int .u8 0] 60) 5)) := by
  obtain ⟨i, hi, hz0, hz1, hz2⟩ := info_parts info5
  have := run_make (P := Tryd.prog) w 23 5 i _ Tryd.underlying23 hi hz0 .i64 .i64 60 60 (by omega) (Int.le_refl _) (by rw [hz2]; omega) (by omega)
  rw [hz1] at this
  exact this

/-- The loop that fills the header with blanks. -/
def FLoop (w : World) (m : Mem) (pd pf : Option Addr) (cd cf : Nat) (i : Value) (wr : World) : Prop :=
  ∃ (k : Nat) (h : List UInt8), k ≤ 60 ∧ i = .int .i64 k ∧ (∀ j, j < k → h.getD j 0 = 32) ∧ HW w m pd pf cd cf h wr

def boxC (m : Mem) (pd pf : Option Addr) (cd cf : Nat) : Array Value := #[.string ⟨m.name.toArray⟩, .slice pd m.data.length cd, .slice pf m.free.length cf, .int .u8 (m.pad.toNat : Int), .bool m.left]

theorem floop_start (w : World) (m : Mem) (pd pf : Option Addr) (cd cf : Nat) : FLoop w m pd pf cd cf (.int .i64 0) ((w.alloc (.cells (boxC m pd pf cd cf) 36)).alloc (.cells (madeCells #[.int .u8 0] 60) 5)) := by
  have hs : (w.alloc (.cells (boxC m pd pf cd cf) 36)).heap.size = w.heap.size + 1 := by simp
  have hlt : w.heap.size < (w.alloc (.cells (boxC m pd pf cd cf) 36)).heap.size := by omega
  refine ⟨0, List.replicate 60 0, by omega, rfl, fun j hj => by omega, ?_, ?_, ?_, ?_, by simp, ?_, ?_⟩
  · rw [World.cell?_alloc_past _ _ _ hlt, World.cell?_alloc_mark]; rfl
  · rw [World.cell?_alloc_past _ _ _ hlt, World.cell?_alloc_mark]; rfl
  · rw [World.cell?_alloc_past _ _ _ hlt, World.cell?_alloc_mark]; rfl
  · rw [World.cell?_alloc_past _ _ _ hlt, World.cell?_alloc_mark]; rfl
  · have := World.rowIs_made (w.alloc (.cells (boxC m pd pf cd cf) 36)) (.int .u8 0) 60 5
    rw [hs] at this
    refine this.congr fun j hj => ?_
    rw [List.getD_eq_getElem?_getD, List.getElem?_eq_getElem (by rw [List.length_replicate]; exact hj), List.getElem_replicate]
    rfl
  · exact ((Below.refl _ _).alloc (Nat.le_refl _) _).alloc (by omega) _

theorem floop_step {w wr : World} {m : Mem} {pd pf : Option Addr} {cd cf k : Nat} {h : List UInt8} (hk : k < 60) (hb : ∀ j, j < k → h.getD j 0 = 32) (H : HW w m pd pf cd cf h wr) :
    FLoop w m pd pf cd cf (.int .i64 ((k + 1 : Nat) : Int)) (wr.setCell ⟨w.heap.size + 1, k, none⟩ (.int .u8 32)) := by
  have := H.put k [32] (by simp; omega)
  refine ⟨k + 1, _, by omega, rfl, fun j hj => ?_, this⟩
  rw [put_at h k [32] (by have := H.len; simp; omega) j (by have := H.len; omega)]
  by_cases e : j = k
  · subst e
    rw [if_pos (by simp), Nat.sub_self]
    rfl
  · rw [if_neg (by simp; omega), hb j (by omega)]

theorem floop_end {h : List UInt8} (hl : h.length = 60) (hb : ∀ j, j < 60 → h.getD j 0 = 32) : h = blanks 60 := by
  apply List.ext_getElem
  · rw [hl, blanks_len]
  · intro j h1 h2
    have := hb j (by omega)
    simp only [List.getD_eq_getElem?_getD, List.getElem?_eq_getElem h1, Option.getD_some] at this
    rw [this]
    exact (List.getElem_replicate (by exact h2)).symm

theorem sz5 : ∀ w, (Go.sizeOf 5).run Tryd.prog w = .ok 1 w := fun w => by
  obtain ⟨i0, hi, _, hz1, _⟩ := info_parts info5
  simp [Go.sizeOf, typeInfo, hi, hz1]
theorem sz5' : (Tryd.prog.info? 5).map (·.size) = some 1 := by
  obtain ⟨i0, hi, _, hz1, _⟩ := info_parts info5
  rw [hi, Option.map_some, hz1]

section
variable {w W : World} {m : Mem} {pd pf : Option Addr} {cd cf : Nat} {h : List UInt8}
theorem HW.some (H : HW w m pd pf cd cf h W) (j : Nat) (hj : j < 60) : (W.cell? ⟨w.heap.size + 1, j, none⟩).isSome = true := by rw [H.row.cell hj]; rfl
/-- 'copy(h[..], name)'. -/
theorem copy_name (H : HW w m pd pf cd cf h W) (hn : m.name.length ≤ 16) (ty : TypeId) :
    (Builtin.copy_ #[23, 9] ty #[.slice (some ⟨w.heap.size + 1, 0, none⟩) 16 60, .string ⟨m.name.toArray⟩]).run Tryd.prog W = .ok (goInt m.name.length) (W.setCells (w.heap.size + 1) 0 (bcells m.name)) := by
  have hsz : (ByteArray.mk m.name.toArray).size = m.name.length := by show m.name.toArray.size = _; simp
  have := run_copy_string (P := Tryd.prog) W 23 9 ty 5 (w.heap.size + 1) 0 16 60 ⟨m.name.toArray⟩ Tryd.underlying23 sz5 (by omega) (fun j hj => H.some _ (by omega)) (fun j hj => H.row.frozen _)
  rw [hsz] at this
  exact this
/-- 'copy(h[o:o+n], bytes)', as many bytes as there is room, or fewer. -/
theorem copy_bytes (H : HW w m pd pf cd cf h W) (o n cp b ob sc : Nat) (l : List UInt8) (hB : Bs W b ob l) (hl : l.length ≤ n) (hn : o + n ≤ 60) (ty : TypeId) :
    (Builtin.copy_ #[23, 23] ty #[.slice (some ⟨w.heap.size + 1, o, none⟩) n cp, .slice (some ⟨b, ob, none⟩) l.length sc]).run Tryd.prog W = .ok (goInt l.length) (W.setCells (w.heap.size + 1) o (bcells l)) := by
  have := run_copy_cells (P := Tryd.prog) W 23 23 ty 5 (w.heap.size + 1) o n cp ⟨b, ob, none⟩ l.length sc (bcells l) Tryd.underlying23 sz5' (by rw [bcells_len]; exact (Nat.min_eq_left hl).symm) hB.news
    (fun j hj => H.some _ (by rw [bcells_len] at hj; omega)) (fun j hj => H.row.frozen _) (bcells_one l)
  rwa [bcells_len] at this
end

theorem tail_num {m : Mem} (hok : m.Ok) : ∃ q : Nat, (58 : Int) - ((decDigits m.data.length).length : Int) = (q : Int) ∧ q ≤ 57 ∧ 53 ≤ q ∧ q + (decDigits m.data.length).length = 58 := by
  have h1 := digits_short hok.2.2.1
  have h2 : 0 < (decDigits m.data.length).length := List.length_pos_iff.2 (digits_ne _)
  exact ⟨58 - (decDigits m.data.length).length, by omega, by omega, by omega, by omega⟩
theorem tail_end {w W : World} {m : Mem} {pd pf : Option Addr} {cd cf q : Nat} (hok : m.Ok) (hq : q + (decDigits m.data.length).length = 58) (H : HW w m pd pf cd cf (nameField m ++ (midField m ++ (blanks 10 ++ endField m))) W) :
    (m.left = true → HW w m pd pf cd cf (hdrOf m) (W.setCells (w.heap.size + 1) q (bcells (decDigits m.data.length)))) ∧
      (m.left = false → HW w m pd pf cd cf (hdrOf m) (W.setCells (w.heap.size + 1) 48 (bcells (decDigits m.data.length)))) := by
  have hd := digits_short hok.2.2.1
  have e := put_size hok (midField m) (endField m) (midField_len m)
  constructor
  · intro hl
    have := H.put q (decDigits m.data.length) (by omega)
    rw [hl] at e
    simp only [if_true] at e
    rw [show q = 58 - (decDigits m.data.length).length by omega] at this ⊢
    rw [e] at this
    unfold hdrOf
    rw [hl]
    exact this
  · intro hl
    have := H.put 48 (decDigits m.data.length) (by omega)
    rw [hl] at e
    simp only [Bool.false_eq_true, if_false] at e
    rw [e] at this
    unfold hdrOf
    rw [hl]
    exact this

/-- What zza1ArHeader answers. -/
def HdrPost (m : Mem) (w : World) (e : Ending) (w' : World) : Prop := (∃ H, e = .returned (.slice (some ⟨H, 0, none⟩) 60 60) ∧ w.heap.size ≤ H ∧ Bs w' H 0 (hdrOf m)) ∧ Below w.heap.size w w'

set_option maxHeartbeats 4000000 in
set_option maxRecDepth 100000 in
theorem header (m : Mem) (pd pf : Option Addr) (cd cf : Nat) (w : World) (hok : Hid m.Ok) (hF : Hid (Sl w pf m.free)) (hfc : m.free.length ≤ cf) :
    Calls Tryd.prog 11 #[.agg #[.string ⟨m.name.toArray⟩, .slice pd m.data.length cd, .slice pf m.free.length cf, .int .u8 (m.pad.toNat : Int), .bool m.left]] w (HdrPost m w) := by
  have hmk := make_60 (w.alloc (.cells (boxC m pd pf cd cf) 36))
  have hs : (w.alloc (.cells (boxC m pd pf cd cf) 36)).heap.size = w.heap.size + 1 := by simp
  rw [hs] at hmk
  have hst : Hid (FLoop w m pd pf cd cf (.int .i64 0) ((w.alloc (.cells (boxC m pd pf cd cf) 36)).alloc (.cells (madeCells #[.int .u8 0] 60) 5))) := floop_start w m pd pf cd cf
  unfold boxC at hmk hst
  clear hs
  go_enter Tryd.func11, Tryd.ntmps11
  go_wp2
  go_loopw [9] (fun i wr => FLoop w m pd pf cd cf i wr) (fun i _ => 60 - (intOf i).toNat)
  case atStart => exact hst.out
  case round =>
    clear hmk hst
    obtain ⟨k, h, hk, rfl, hb, H⟩ := hrel
    by_cases hlt : k < 60
    · have hstep : Hid _ := floop_step hlt hb H
      have e0 := H.row.cell (i := k) (by omega)
      have z0 := H.row.frozen k
      have HH : Hid _ := H
      have HB : Hid _ := hb
      clear H hb
      go_wp2
      exact ⟨by have := hstep.out; rwa [Int.natCast_add, Int.natCast_one] at this, by simp only [intOf]; omega⟩
    · obtain rfl : k = 60 := by omega
      have hbl := floop_end H.len hb
      subst hbl
      have HH : Hid (HW w m pd pf cd cf (blanks 60) wr) := H
      have c0 := H.c0
      clear H hb
      have hcp := copy_name HH.out.drew hok.out.1 3
      have h2 : Hid (HW w m pd pf cd cf (nameField m ++ (blanks 32 ++ (blanks 10 ++ blanks 2))) (wr.drew.setCells (w.heap.size + 1) 0 (bcells m.name))) := by
        have := HH.out.drew.put 0 m.name (by have := hok.out.1; omega)
        rwa [put_name hok.out] at this
      go_wp2
      go_region
      generalize wr.drew.setCells (w.heap.size + 1) 0 (bcells m.name) = w2 at h2 ⊢
      clear hcp c0 HH
      have c2 := h2.out.c2
      by_cases h34 : 34 ≤ m.free.length
      · obtain ⟨bf, ob, rfl, hBf⟩ := hF.out (by omega)
        have hbf : bf < w.heap.size := hBf.lt (by omega)
        have HBf : Hid (Bs w bf ob m.free) := hBf
        have hl32 : (m.free.take 32).length = 32 := by rw [List.length_take]; omega
        have hl2 : ((m.free.drop 32).take 2).length = 2 := by rw [List.length_take, List.length_drop]; omega
        have h3 : Hid (HW w m pd (some ⟨bf, ob, none⟩) cd cf (nameField m ++ (m.free.take 32 ++ (blanks 10 ++ blanks 2))) (w2.drew.setCells (w.heap.size + 1) 16 (bcells (m.free.take 32)))) := by
          have := h2.out.drew.put 16 (m.free.take 32) (by omega)
          rwa [put_mid hok.out _ _ hl32] at this
        have hcp := copy_bytes h2.out.drew 16 32 44 bf ob cf (m.free.take 32) ((HBf.out.below hbf h2.out.drew.bel).take 32) (by omega) (by omega) 3
        rw [hl32] at hcp
        have Hl : Hid ((m.free.take 32).length = 32 ∧ ((m.free.drop 32).take 2).length = 2) := ⟨hl32, hl2⟩
        clear hBf hl32 hl2
        go_wp2
        go_region
        generalize w2.drew.setCells (w.heap.size + 1) 16 (bcells (m.free.take 32)) = w3 at h3 ⊢
        clear hcp c2 h2
        have c2 := h3.out.c2
        have h4 : Hid (HW w m pd (some ⟨bf, ob, none⟩) cd cf (nameField m ++ (m.free.take 32 ++ (blanks 10 ++ (m.free.drop 32).take 2))) (w3.drew.setCells (w.heap.size + 1) 58 (bcells ((m.free.drop 32).take 2)))) := by
          have := h3.out.drew.put 58 ((m.free.drop 32).take 2) (by have := Hl.out.2; omega)
          rwa [put_end hok.out _ _ Hl.out.1 Hl.out.2] at this
        have hcp := copy_bytes h3.out.drew 58 2 2 bf (ob + 32) (cf - 32) ((m.free.drop 32).take 2) (((HBf.out.below hbf h3.out.drew.bel).drop 32).take 2) (by have := Hl.out.2; omega) (by omega) 3
        rw [Hl.out.2] at hcp
        go_wp2
        go_region
        generalize w3.drew.setCells (w.heap.size + 1) 58 (bcells ((m.free.drop 32).take 2)) = w4 at h4 ⊢
        clear hcp c2 h3
        have h4' : Hid (HW w m pd (some ⟨bf, ob, none⟩) cd cf (nameField m ++ (midField m ++ (blanks 10 ++ endField m))) w4) := by
          have := h4.out
          unfold midField endField
          rwa [if_pos h34, if_pos h34]
        clear h4
        have c1 := h4'.out.c1
        have hX := h4'
        clear h4'
        go_wp2_with (go_at_call 13; refine (itoa m.data.length hok.out.2.2.1 w4).mono ?_; rintro e W5 ⟨⟨g, cap, rfl, hcap, hg, hBs⟩, hb5⟩; have h5 : Hid _ := hX.out.below hb5; have c4 := h5.out.c4; obtain ⟨q, hq1, hq2, hq3, hq4⟩ := tail_num hok.out; have hcT := copy_bytes h5.out q (58 - q) (60 - q) g 0 cap (decDigits m.data.length) hBs (by omega) (by omega) 3; have hcF := copy_bytes h5.out 48 10 12 g 0 cap (decDigits m.data.length) hBs (by omega) (by omega) 3; have hE : Hid _ := tail_end hok.out hq4 h5.out; clear hBs hq4 c1 hb5 hX)
        all_goals go_ret
        · exact ⟨⟨_, rfl, by omega, (hE.out.1 (by assumption)).bytes⟩, (hE.out.1 (by assumption)).bel⟩
        · exact ⟨⟨_, rfl, by omega, (hE.out.2 (by assumption)).bytes⟩, (hE.out.2 (by assumption)).bel⟩
      · have e16 := h2.out.row.cell (i := 16) (by omega)
        have e58 := h2.out.row.cell (i := 58) (by omega)
        have e59 := h2.out.row.cell (i := 59) (by omega)
        have z16 := h2.out.row.frozen 16
        have z58 := h2.out.row.frozen 58
        have z59 := h2.out.row.frozen 59
        have c1 := h2.out.c1
        have h4 : Hid (HW w m pd pf cd cf (nameField m ++ (midField m ++ (blanks 10 ++ endField m))) (((w2.setCell ⟨w.heap.size + 1, 16, none⟩ (.int .u8 48)).setCell ⟨w.heap.size + 1, 58, none⟩ (.int .u8 96)).setCell ⟨w.heap.size + 1, 59, none⟩ (.int .u8 10))) := by
          have := ((h2.out.put 16 [48] (by simp)).put 58 [96] (by simp)).put 59 [10] (by simp)
          rw [put_usual hok.out] at this
          unfold midField endField
          rw [if_neg h34, if_neg h34]
          exact this
        go_wp2_with (fail)
        generalize (((w2.setCell ⟨w.heap.size + 1, 16, none⟩ (.int .u8 48)).setCell ⟨w.heap.size + 1, 58, none⟩ (.int .u8 96)).setCell ⟨w.heap.size + 1, 59, none⟩ (.int .u8 10)) = w4 at h4 ⊢
        clear c1 c2 e16 e58 e59 z16 z58 z59 h2
        have hX := h4
        have c1 := h4.out.c1
        clear h4
        refine (itoa m.data.length hok.out.2.2.1 w4).mono ?_
        rintro e W5 ⟨⟨g, cap, rfl, hcap, hg, hBs⟩, hb5⟩
        have h5 : Hid _ := hX.out.below hb5
        have c4 := h5.out.c4
        obtain ⟨q, hq1, hq2, hq3, hq4⟩ := tail_num hok.out
        have hcT := copy_bytes h5.out q (58 - q) (60 - q) g 0 cap (decDigits m.data.length) hBs (by omega) (by omega) 3
        have hcF := copy_bytes h5.out 48 10 12 g 0 cap (decDigits m.data.length) hBs (by omega) (by omega) 3
        have hE : Hid _ := tail_end hok.out hq4 h5.out
        clear hBs hq4 c1 hb5 hX
        go_wp2
        all_goals go_ret
        · exact ⟨⟨_, rfl, by omega, (hE.out.1 (by assumption)).bytes⟩, (hE.out.1 (by assumption)).bel⟩
        · exact ⟨⟨_, rfl, by omega, (hE.out.2 (by assumption)).bytes⟩, (hE.out.2 (by assumption)).bel⟩
end Go.Proofs.Qxb6003829aDoor
