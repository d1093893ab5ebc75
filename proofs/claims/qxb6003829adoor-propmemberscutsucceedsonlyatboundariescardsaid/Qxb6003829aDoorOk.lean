/-
  Seat b6003829aD: members in memory; the walk of zza1MemsOK (5).
-/
import Derived.Test.Qxb6003829aDoorHeader
namespace Go.Proofs.Qxb6003829aDoor
open Go.RowKit Go.Lib

/-- The five cells of a member. -/
def MAt (w : World) (b o : Nat) (m : Mem) : Prop := ∃ (pd : Option Addr) (cd : Nat) (pf : Option Addr) (cf : Nat),
  w.cell? ⟨b, o, none⟩ = some (.string ⟨m.name.toArray⟩) ∧ w.cell? ⟨b, o + 1, none⟩ = some (.slice pd m.data.length cd) ∧ w.cell? ⟨b, o + 2, none⟩ = some (.slice pf m.free.length cf) ∧
    w.cell? ⟨b, o + 3, none⟩ = some (.int .u8 (m.pad.toNat : Int)) ∧ w.cell? ⟨b, o + 4, none⟩ = some (.bool m.left) ∧ Sl w pd m.data ∧ Sl w pf m.free ∧ m.data.length ≤ cd ∧ m.free.length ≤ cf
def MCells (w : World) (b o : Nat) (ms : List Mem) : Prop := ∀ (j : Nat) (h : j < ms.length), MAt w b (o + j * 5) ms[j]

theorem MAt.below {w w' : World} {b o : Nat} {m : Mem} (h : MAt w b o m) (hB : Below w.heap.size w w') : MAt w' b o m := by
  obtain ⟨pd, cd, pf, cf, h0, h1, h2, h3, h4, h5, h6, h7⟩ := h
  exact ⟨pd, cd, pf, cf, cell_below hB h0, cell_below hB h1, cell_below hB h2, cell_below hB h3, cell_below hB h4, h5.below hB, h6.below hB, h7⟩
theorem MCells.below {w w' : World} {b o : Nat} {ms : List Mem} (h : MCells w b o ms) (hB : Below w.heap.size w w') : MCells w' b o ms := fun j hj => (h j hj).below hB

def nameOk (n : List UInt8) : Bool := decide (n.length ≤ 16) && !(n.getLast? == some 32)
def memOk (m : Mem) : Bool := nameOk m.name && (decide (m.data.length ≤ 65536) && decide (m.free.length ≤ 64))
theorem memOk_iff (m : Mem) : memOk m = true ↔ m.Ok := by
  unfold memOk nameOk Mem.Ok
  simp only [Bool.and_eq_true, decide_eq_true_eq, Bool.not_eq_true', beq_eq_false_iff_ne, ne_eq, and_assoc]
  constructor
  · rintro ⟨h1, h2, h3, h4⟩
    exact ⟨h1, fun c hc h => h2 (by rw [hc, h]), h3, h4⟩
  · rintro ⟨h1, h2, h3, h4⟩
    exact ⟨h1, fun h => h2 32 h rfl, h3, h4⟩
def okB (ms : List Mem) : Bool := decide (ms.length ≤ 64) && ms.all memOk

theorem bytes_size (l : List UInt8) : (ByteArray.mk l.toArray).size = l.length := by show l.toArray.size = _; simp

theorem bad_name {m : Mem} (h : 16 < (m.name.length : Int)) : memOk m = false := by
  unfold memOk nameOk
  rw [decide_eq_false (by omega : ¬ m.name.length ≤ 16)]
  rfl
theorem bad_data {m : Mem} (h : 65536 < (m.data.length : Int)) : memOk m = false := by
  unfold memOk
  rw [decide_eq_false (by omega : ¬ m.data.length ≤ 65536)]
  simp
theorem bad_free {m : Mem} (h : 64 < (m.free.length : Int)) : memOk m = false := by
  unfold memOk
  rw [decide_eq_false (by omega : ¬ m.free.length ≤ 64)]
  simp
theorem last_of {l : List UInt8} (h : 0 < l.length) (hp : l.length - 1 < (ByteArray.mk l.toArray).size) : l.getLast? = some ((ByteArray.mk l.toArray)[l.length - 1]'hp) := by
  rw [List.getLast?_eq_getElem?, List.getElem?_eq_getElem (by omega)]
  rfl
theorem bad_last {m : Mem} (h : 0 < m.name.length) {hp : m.name.length - 1 < (ByteArray.mk m.name.toArray).size} (hx : (((ByteArray.mk m.name.toArray)[m.name.length - 1]'hp).toNat : Int) = 32) : memOk m = false := by
  have h32 : (ByteArray.mk m.name.toArray)[m.name.length - 1]'hp = 32 := UInt8.toNat_inj.1 (by show _ = 32; omega)
  unfold memOk nameOk
  rw [last_of h hp, h32]
  simp
theorem bad_any3 {m : Mem} {x : Int} (h : ((16 < (m.name.length : Int) ∨ (x == 32) = true) ∨ 65536 < (m.data.length : Int)) ∨ 64 < (m.free.length : Int)) (hx : ¬ x = 32) : memOk m = false := by
  rcases h with ((h | h) | h) | h
  · exact bad_name h
  · exact absurd (by simpa using h) hx
  · exact bad_data h
  · exact bad_free h
theorem bad_any2 {m : Mem} (h : (16 < (m.name.length : Int) ∨ 65536 < (m.data.length : Int)) ∨ 64 < (m.free.length : Int)) : memOk m = false := by
  rcases h with (h | h) | h
  · exact bad_name h
  · exact bad_data h
  · exact bad_free h
theorem good3 {m : Mem} (hl : 0 < m.name.length) {hp : m.name.length - 1 < (ByteArray.mk m.name.toArray).size}
    (h : (((m.name.length : Int) ≤ 16 ∧ ((((ByteArray.mk m.name.toArray)[m.name.length - 1]'hp).toNat : Int) == 32) = false) ∧ (m.data.length : Int) ≤ 65536) ∧ (m.free.length : Int) ≤ 64) : memOk m = true := by
  obtain ⟨⟨⟨h1, h2⟩, h3⟩, h4⟩ := h
  have h32 : (ByteArray.mk m.name.toArray)[m.name.length - 1]'hp ≠ 32 := fun e => by rw [e] at h2; exact absurd h2 (by decide)
  unfold memOk nameOk
  rw [last_of hl hp, decide_eq_true (by omega : m.name.length ≤ 16), decide_eq_true (by omega : m.data.length ≤ 65536), decide_eq_true (by omega : m.free.length ≤ 64)]
  simp [h32]
theorem good2 {m : Mem} (hl : ¬ 0 < m.name.length) (h : ((m.name.length : Int) ≤ 16 ∧ (m.data.length : Int) ≤ 65536) ∧ (m.free.length : Int) ≤ 64) : memOk m = true := by
  obtain ⟨⟨h1, h3⟩, h4⟩ := h
  have : m.name = [] := List.eq_nil_of_length_eq_zero (by omega)
  unfold memOk nameOk
  rw [this, decide_eq_true (by omega : m.data.length ≤ 65536), decide_eq_true (by omega : m.free.length ≤ 64)]
  rfl
theorem all_false {ms : List Mem} {k : Nat} (h : (ms.take k).all memOk = false) : ms.all memOk = false := by
  rw [List.all_eq_false] at h ⊢
  obtain ⟨x, hx, hh⟩ := h
  exact ⟨x, List.mem_of_mem_take hx, hh⟩

set_option maxHeartbeats 4000000 in
set_option maxRecDepth 100000 in
theorem memsOk (ms : List Mem) (a : Option Addr) (b o cp : Nat) (w : World) (ha : 0 < ms.length → a = some ⟨b, o, none⟩) (hC : Hid (MCells w b o ms)) :
    Calls Tryd.prog 5 #[.slice a ms.length cp] w fun e w' => e = .returned (.bool (okB ms)) ∧ w' = w := by
  by_cases h64 : ms.length ≤ 64
  · have HO : Hid (okB ms = ms.all memOk) := by show okB ms = _; unfold okB; simp [h64]
    go_enter Tryd.func5, Tryd.ntmps5
    go_wp2
    go_loop [10] (fun i => ∃ k : Nat, k ≤ ms.length ∧ i = .int .i64 k ∧ Hid ((ms.take k).all memOk = true)) (fun i => ms.length - (intOf i).toNat)
    case atStart => exact ⟨0, Nat.zero_le _, rfl, (by simp : (ms.take 0).all memOk = true)⟩
    case round =>
      obtain ⟨k, hk, rfl, hall⟩ := hrel
      by_cases hlt : k < ms.length
      · obtain ⟨pd, cd, pf, cf, c0, c1, c2, _⟩ := hC.out k hlt
        obtain rfl := ha (by omega)
        have hsz := bytes_size ms[k].name
        have hsn : Hid ((ms.take (k + 1)).all memOk = memOk ms[k]) := by
          show (ms.take (k + 1)).all memOk = memOk ms[k]
          rw [List.take_succ_eq_append_getElem hlt, List.all_append, hall.out]
          simp
        generalize ms[k] = m at *
        go_wp2
        all_goals first
          | (have hbad : memOk m = false := by
               first
                 | exact bad_name (by assumption)
                 | exact bad_last (by assumption) (by assumption)
                 | exact bad_data (by assumption)
                 | exact bad_any2 (by assumption)
                 | exact bad_any3 (by assumption) (by assumption)
             go_ret
             exact ⟨ret_bool (by rw [HO.out, all_false (hsn.out.trans hbad)]), rfl⟩)
          | (have hgood : memOk m = true := by
               first
                 | exact good2 (by assumption) (by assumption)
                 | exact good3 (by assumption) (by assumption)
             exact ⟨⟨k + 1, by omega, by go_num, hsn.out.trans hgood⟩, by simp [intOf]; omega⟩)
      · go_wp2
        go_ret
        obtain rfl : k = ms.length := by omega
        exact ⟨ret_bool (by rw [HO.out, ← hall.out, List.take_length]), rfl⟩
  · have HO : Hid (okB ms = false) := by show okB ms = _; unfold okB; simp [h64]
    go_enter Tryd.func5, Tryd.ntmps5
    go_wp2
    go_ret
    exact ⟨ret_bool HO.out.symm, rfl⟩
end Go.Proofs.Qxb6003829aDoor
