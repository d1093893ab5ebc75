/-
  Seat b6003829aD: the walk of ZZMembers (7).
-/
import Derived.Test.Qxb6003829aDoorMembers
namespace Go.Proofs.Qxb6003829aDoor
open Go.RowKit

theorem info34 : (Tryd.prog.info? 34).map (fun i => (i.zero, i.size, i.bytes)) = some (some (.agg #[.string ⟨#[]⟩, .int .i64 0, .slice none 0 0]), 3, 48) := by kernel_rfl

theorem make_zz (n : Nat) (h : n ≤ 1048576) (w : World) :
    (Instr.makeSlice 28 (.int .i64 n) (.int .i64 n)).run Tryd.prog w = .ok (.slice (some ⟨w.heap.size, 0, none⟩) n n) (w.alloc (.cells (madeCells #[.string ⟨#[]⟩, .int .i64 0, .slice none 0 0] (n * 3)) 34)) := by
  obtain ⟨i, hi, hz0, hz1, hz2⟩ := info_parts info34
  have := run_make (P := Tryd.prog) w 28 34 i _ Tryd.underlying28 hi hz0 .i64 .i64 n n (by omega) (Int.le_refl _) (by rw [hz2]; omega) (by omega)
  rw [hz1] at this
  simp only [Int.toNat_natCast] at this
  exact this

theorem made_zz (w : World) (n : Nat) : ∃ f, (w.alloc (.cells (madeCells #[.string ⟨#[]⟩, .int .i64 0, .slice none 0 0] (n * 3)) 34)).rowIs w.heap.size 34 (n * 3) f := by
  have := World.rowIs_alloc w (madeCells #[.string ⟨#[]⟩, .int .i64 0, .slice none 0 0] (n * 3)) 34 (fun j => (madeCells #[.string ⟨#[]⟩, .int .i64 0, .slice none 0 0] (n * 3)).getD j undef) (fun j hj => by simp [Array.getD, hj])
  rw [size_madeCells] at this
  exact ⟨_, this⟩

/-- The list's cells: three a member. -/
def ZCells (w : World) (b : Nat) (L : List (Got × Value)) : Prop := ∀ (j : Nat) (h : j < L.length),
  w.cell? ⟨b, j * 3, none⟩ = some (.string ⟨L[j].1.name.toArray⟩) ∧ w.cell? ⟨b, j * 3 + 1, none⟩ = some (.int .i64 L[j].1.off) ∧ w.cell? ⟨b, j * 3 + 2, none⟩ = some L[j].2

theorem ZCells.below {w w' : World} {b : Nat} {L : List (Got × Value)} (h : ZCells w b L) (hb : b < w.heap.size) (hB : Below w.heap.size w w') : ZCells w' b L := fun j hj => by
  obtain ⟨h0, h1, h2⟩ := h j hj
  exact ⟨(hB.cell (p := ⟨b, j * 3, none⟩) hb).trans h0, (hB.cell (p := ⟨b, j * 3 + 1, none⟩) hb).trans h1, (hB.cell (p := ⟨b, j * 3 + 2, none⟩) hb).trans h2⟩

theorem rowCells_at : ∀ (L : List (Got × Value)) (j : Nat) (h : j < L.length), (rowCells L)[j * 3]? = some (.string ⟨L[j].1.name.toArray⟩) ∧ (rowCells L)[j * 3 + 1]? = some (.int .i64 L[j].1.off) ∧ (rowCells L)[j * 3 + 2]? = some L[j].2
  | [], j, h => by simp at h
  | x :: L, 0, _ => ⟨rfl, rfl, rfl⟩
  | x :: L, j + 1, h => by
    have := rowCells_at L j (by simpa using h)
    have e : rowCells (x :: L) = .string ⟨x.1.name.toArray⟩ :: .int .i64 x.1.off :: x.2 :: rowCells L := rfl
    rw [e, show (j + 1) * 3 = j * 3 + 1 + 1 + 1 by omega]
    exact this

/-- What an owned row of members looks like. -/
theorem own_shape {w : World} {base : Nat} {v : Value} {L : List (Got × Value)} (h : w.ownsRow base 46 3 v L.length (rowCells L)) :
    ∃ a cp, v = .slice a L.length cp ∧ (L = [] ∨ ∃ g, a = some ⟨g, 0, none⟩ ∧ g < w.heap.size ∧ ZCells w g L) := by
  have hh := h
  rcases h.2 with ⟨rfl, h0⟩ | ⟨g, cap, cur, rfl, hb, hg, _⟩
  · have : L = [] := List.eq_nil_of_length_eq_zero h0
    subst this
    exact ⟨none, 0, rfl, .inl rfl⟩
  · refine ⟨_, _, rfl, .inr ⟨g, rfl, (hh.lt g rfl).2, fun j hj => ?_⟩⟩
    obtain ⟨h0, h1, h2⟩ := rowCells_at L j hj
    exact ⟨by rw [hh.cellAt (j * 3) (by omega)]; exact h0, by rw [hh.cellAt (j * 3 + 1) (by omega)]; exact h1, by rw [hh.cellAt (j * 3 + 2) (by omega)]; exact h2⟩

/-- The row's cells hold the first k elements. -/
def ZFilled (f : Nat → Value) (L : List (Got × Value)) (k : Nat) : Prop := ∀ (j : Nat) (h : j < L.length), j < k →
  f (j * 3) = .string ⟨L[j].1.name.toArray⟩ ∧ f (j * 3 + 1) = .int .i64 L[j].1.off ∧ f (j * 3 + 2) = L[j].2

theorem zz_step {w wr : World} {B n : Nat} {f : Nat → Value} {L : List (Got × Value)} {k : Nat} (hlt : k < L.length) (hB : w.heap.size ≤ B) (hrow : wr.rowIs B 34 n f) (hfl : ZFilled f L k) (hnx : Below w.heap.size w wr) {s : ByteArray} {p : Int} {d : Value}
    (hs : ⟨L[k].1.name.toArray⟩ = s) (hp : (L[k].1.off : Int) = p) (hd : L[k].2 = d) :
    ∃ g, (((wr.setCell ⟨B, k * 3, none⟩ (.string s)).setCell ⟨B, k * 3 + 1, none⟩ (.int .i64 p)).setCell ⟨B, k * 3 + 2, none⟩ d).drew.rowIs B 34 n g ∧ ZFilled g L (k + 1) ∧
      Below w.heap.size w (((wr.setCell ⟨B, k * 3, none⟩ (.string s)).setCell ⟨B, k * 3 + 1, none⟩ (.int .i64 p)).setCell ⟨B, k * 3 + 2, none⟩ d).drew := by
  refine ⟨_, (((hrow.set (k * 3) _).set (k * 3 + 1) _).set (k * 3 + 2) _).drew, ?_, (((hnx.setCell hB _).setCell hB _).setCell hB _).drew⟩
  intro j hj hjk
  by_cases e : j = k
  · subst e
    rw [hs, hp, hd]
    refine ⟨?_, ?_, ?_⟩ <;> dsimp only
    · rw [if_neg (by omega), if_neg (by omega), if_pos rfl]
    · rw [if_neg (by omega), if_pos rfl]
    · rw [if_pos rfl]
  · obtain ⟨h0, h1, h2⟩ := hfl j hj (by omega)
    refine ⟨?_, ?_, ?_⟩ <;> dsimp only
    · rw [if_neg (by omega), if_neg (by omega), if_neg (by omega), h0]
    · rw [if_neg (by omega), if_neg (by omega), if_neg (by omega), h1]
    · rw [if_neg (by omega), if_neg (by omega), if_neg (by omega), h2]

theorem zcells_of {w : World} {b n : Nat} {f : Nat → Value} {L : List (Got × Value)} (hrow : w.rowIs b 34 n f) (hn : n = L.length * 3) (hfl : ZFilled f L L.length) : ZCells w b L := by
  intro j hj
  obtain ⟨h0, h1, h2⟩ := hfl j hj hj
  exact ⟨by rw [← h0]; exact hrow.cell (by omega), by rw [← h1]; exact hrow.cell (by omega), by rw [← h2]; exact hrow.cell (by omega)⟩

/-- What ZZMembers answers. -/
def ZPost (l : List UInt8) (b o : Nat) (w : World) (e : Ending) (w' : World) : Prop :=
  ((∃ (L : List (Got × Value)) (B : Nat), Good l (L.map Prod.fst) ∧ (∀ x ∈ L, DataAt b o x.1 x.2) ∧ e = .returned (.tuple #[.slice (some ⟨B, 0, none⟩) L.length L.length, .nilIface]) ∧ B < w'.heap.size ∧ w.heap.size ≤ B ∧ ZCells w' B L) ∨
    (Bad l ∧ ∃ t p, e = .returned (.tuple #[.slice none 0 0, .iface t p]))) ∧ Below w.heap.size w w'

theorem good_len {l : List UInt8} {L : List (Got × Value)} (h : Good l (L.map Prod.fst)) (hl : l.length ≤ 8388608) : L.length ≤ 139811 := by
  obtain ⟨hm, off', hc, _⟩ := h
  have h1 := chain_len hc
  have h8 : magicB.length ≤ l.length := hm.length_le
  have h9 : magicB.length = 8 := rfl
  have h2 := chain_le hc (by omega)
  rw [List.length_map] at h1
  omega

set_option maxHeartbeats 400000 in
set_option maxRecDepth 100000 in
theorem zzAt (l : List UInt8) (p : Option Addr) (c b o : Nat) (w : World) (hl : Hid (l.length ≤ 8388608)) (cM : Calls Tryd.prog 12 #[.slice p l.length c] w (MembersPost l b o w)) :
    Calls Tryd.prog 7 #[.slice p l.length c] w (ZPost l b o w) := by
  generalize hn : l.length = n at *
  have Hn : Hid (l.length = n) := hn
  clear hn
  go_enter Tryd.func7, Tryd.ntmps7
  go_wp2_with (go_at_call 12; go_fit cM; rintro e W1 ⟨⟨L, v, hG, hD, rfl, hown⟩ | ⟨hF, t, p, rfl⟩, hb1⟩ <;> try (have hmk := make_zz L.length (by have := good_len hG (by rw [Hn.out]; exact hl.out); omega); obtain ⟨a, cp, rfl, hz⟩ := own_shape hown; clear cM))
  · have HG : Hid (Good l (L.map Prod.fst)) := hG
    have HD : Hid (∀ x ∈ L, DataAt b o x.1 x.2) := hD
    have HZ : Hid (L = [] ∨ ∃ g, a = some ⟨g, 0, none⟩ ∧ g < W1.heap.size ∧ ZCells W1 g L) := hz
    have HL : Hid (L.length ≤ 139811) := good_len hG (by rw [Hn.out]; exact hl.out)
    clear hG hD hown hz
    go_loopw [21] (fun i wr => ∃ (k : Nat) (f : Nat → Value), k ≤ L.length ∧ i = .int .i64 k ∧ wr.rowIs W1.heap.size 34 (L.length * 3) f ∧ ZFilled f L k ∧ Below W1.heap.size W1 wr) (fun i _ => L.length - (intOf i).toNat)
    case atStart =>
      obtain ⟨f, hf⟩ := made_zz W1 L.length
      exact ⟨0, f, Nat.zero_le _, rfl, hf, fun j _ h => by omega, (Below.refl _ _).alloc (Nat.le_refl _) _⟩
    case round =>
      obtain ⟨k, f, hk, rfl, hrow, hfl, hnx⟩ := hrel
      have hll := HL.out
      by_cases hlt : k < L.length
      · obtain ⟨g, rfl, hgl, hzc⟩ : ∃ g, a = some ⟨g, 0, none⟩ ∧ g < W1.heap.size ∧ ZCells W1 g L := by
          rcases HZ.out with h | h
          · rw [h] at hlt; simp at hlt
          · exact h
        obtain ⟨c0, c1, c2⟩ := hzc k hlt
        obtain ⟨ad, cpd, hdv, _⟩ := HD.out _ (List.getElem_mem hlt)
        have d0 := (hnx.cell (p := ⟨g, k * 3, none⟩) hgl).trans c0
        have d1 := (hnx.cell (p := ⟨g, k * 3 + 1, none⟩) hgl).trans c1
        have d2 := (hnx.cell (p := ⟨g, k * 3 + 2, none⟩) hgl).trans c2
        rw [hdv] at d2
        have e0 := hrow.cell (i := k * 3) (by omega)
        have e1 := hrow.cell (i := k * 3 + 1) (by omega)
        have e2 := hrow.cell (i := k * 3 + 2) (by omega)
        have z0 := hrow.frozen (k * 3)
        have z1 := hrow.frozen (k * 3 + 1)
        have z2 := hrow.frozen (k * 3 + 2)
        have hstep : Hid _ := zz_step (w := W1) (B := W1.heap.size) hlt (Nat.le_refl _) hrow hfl hnx rfl rfl hdv
        clear c0 c1 c2 hmk hdv
        generalize L[k].1 = v at *
        go_wp2
        go_region
        go_wp2
        obtain ⟨f', h1, h2, h3⟩ := hstep.out
        exact ⟨⟨k + 1, f', by omega, by go_num, h1, h2, h3⟩, by simp [intOf]; omega⟩
      · go_wp2
        go_ret2
        obtain rfl : k = L.length := by omega
        exact ⟨.inl ⟨L, _, HG.out, HD.out, rfl, hrow.lt, hb1.size, zcells_of hrow rfl hfl⟩, hb1.trans (hnx.mono hb1.size)⟩
  · go_ret2
    exact ⟨.inr ⟨hF, _, _, rfl⟩, hb1⟩

/-- ZZMembers, at whatever slice of bytes. -/
theorem zzMembers (l : List UInt8) (p : Option Addr) (c : Nat) (w : World) (hl : l.length ≤ 8388608) (hc : l.length ≤ c) (hS : Sl w p l) (E : Env w) :
    ∃ b o, (0 < l.length → p = some ⟨b, o, none⟩ ∧ Bs w b o l) ∧ Calls Tryd.prog 7 #[.slice p l.length c] w (ZPost l b o w) := by
  obtain ⟨b, o, h1, h2⟩ := members l p c w hl hc hS E
  exact ⟨b, o, h1, zzAt l p c b o w hl h2⟩
end Go.Proofs.Qxb6003829aDoor
