/-
  THE WALKS of the two guards on sizes: 'zzBytes_..' (11) and 'valuesBytes' (12).
-/
import Derived.Test.Qxb6606343aDoorLive
namespace Go.Proofs.Qxb6606343aDoor
open Go.RowKit

/-- One element of 'values'. -/
structure ZVal where
  text : ByteArray
  params : Int
  constant : Bool
  ascii : Bool

/-- The four cells of one element. -/
def At (w : World) (b o : Nat) (v : ZVal) : Prop :=
  w.cell? ⟨b, o, none⟩ = some (.string v.text) ∧ w.cell? ⟨b, o + 1, none⟩ = some (.int .i64 v.params) ∧ w.cell? ⟨b, o + 2, none⟩ = some (.bool v.constant) ∧ w.cell? ⟨b, o + 3, none⟩ = some (.bool v.ascii)
/-- The cells from o on hold the elements vs. -/
def Cells (w : World) (b o : Nat) (vs : List ZVal) : Prop := ∀ (j : Nat) (h : j < vs.length), At w b (o + j * 4) vs[j]

/-- How many bytes the texts of the first k elements take. -/
def sumTo (vs : List ZVal) (k : Nat) : Nat := ((vs.take k).map fun v => v.text.size).sum

theorem sum_snoc (vs : List ZVal) (k : Nat) (h : k < vs.length) : sumTo vs (k + 1) = sumTo vs k + vs[k].text.size := by
  unfold sumTo
  rw [List.take_succ_eq_append_getElem h, List.map_append, List.sum_append]
  simp
theorem sum_le (vs : List ZVal) (k : Nat) : sumTo vs k ≤ sumTo vs vs.length := by
  unfold sumTo
  have h : vs.take vs.length = vs.take k ++ vs.drop k := by rw [List.take_append_drop]; simp
  rw [h, List.map_append, List.sum_append]
  omega
/-- A bool comes back; true only where the sizes add up to 2^20 at most. -/
def SizeOk (n : Nat) (e : Ending) : Prop := ∃ B, e = .returned (.bool B) ∧ (B = true → n ≤ 1048576)
theorem sizeOk_false {n : Nat} : SizeOk n (.returned (.bool false)) := ⟨false, rfl, fun h => by cases h⟩
theorem sizeOk_true {n : Nat} (h : n ≤ 1048576) : SizeOk n (.returned (.bool true)) := ⟨true, rfl, fun _ => h⟩
/-- Some int comes back. -/
def SomeInt (e : Ending) : Prop := ∃ n : Int, e = .returned (.int .i64 n)
theorem someInt (n : Int) : SomeInt (.returned (.int .i64 n)) := ⟨n, rfl⟩

set_option maxHeartbeats 400000 in
set_option maxRecDepth 100000 in
theorem bytes_ne (r c : ByteArray) (vs : List ZVal) (b o cp : Nat) (w : World) (hr : r.size ≤ maxLen) (hc : c.size ≤ maxLen) (hn : vs.length ≤ maxLen) (ht : Hid (∀ v ∈ vs, v.text.size ≤ maxLen)) (hcells : Hid (Cells w b o vs)) :
    Calls Tryd.prog 11 #[.string r, .string c, .slice (some ⟨b, o, none⟩) vs.length cp] w fun e w' => SizeOk (r.size + c.size + vs.length + sumTo vs vs.length) e ∧ w' = w := by
  unfold maxLen at hr hc hn
  go_enter Tryd.func11, Tryd.ntmps11
  go_wp2
  case _ => go_ret; exact ⟨sizeOk_false, rfl⟩
  case _ => go_ret; exact ⟨sizeOk_false, rfl⟩
  case _ => go_ret; exact ⟨sizeOk_false, rfl⟩
  case _ => go_ret; exact ⟨sizeOk_false, rfl⟩
  case _ => go_ret; exact ⟨sizeOk_false, rfl⟩
  go_loop [7, 8] (fun z i => ∃ k : Nat, k ≤ vs.length ∧ i = .int .i64 k ∧ z = .int .i64 (r.size + c.size + vs.length + sumTo vs k) ∧ r.size + c.size + vs.length + sumTo vs k ≤ 1048576) (fun _ i => vs.length - (intOf i).toNat)
  case atStart => exact ⟨0, Nat.zero_le _, rfl, by simp [sumTo], by simp [sumTo]; omega⟩
  case round =>
    obtain ⟨k, hk, rfl, rfl, hle⟩ := hrel
    by_cases hlt : k < vs.length
    · have hS : Hid (sumTo vs (k + 1) = sumTo vs k + vs[k].text.size) := sum_snoc vs k hlt
      obtain ⟨c0, _, _, _⟩ := hcells.out k hlt
      have htk : vs[k].text.size ≤ 9223372036854775807 := ht.out _ (List.getElem_mem hlt)
      generalize vs[k].text = tx at *
      go_wp2
      case _ => go_ret; exact ⟨sizeOk_false, rfl⟩
      case _ => go_ret; exact ⟨sizeOk_false, rfl⟩
      exact ⟨⟨k + 1, by omega, by go_num, by rw [hS.out]; go_num, by rw [hS.out]; omega⟩, by simp [intOf]; omega⟩
    · go_wp2
      go_ret
      obtain rfl : k = vs.length := by omega
      exact ⟨sizeOk_true hle, rfl⟩

set_option maxHeartbeats 400000 in
set_option maxRecDepth 100000 in
theorem bytes_no (r c : ByteArray) (a : Option Addr) (cp : Nat) (w : World) (hr : r.size ≤ maxLen) (hc : c.size ≤ maxLen) :
    Calls Tryd.prog 11 #[.string r, .string c, .slice a 0 cp] w fun e w' => SizeOk (r.size + c.size) e ∧ w' = w := by
  unfold maxLen at hr hc
  go_enter Tryd.func11, Tryd.ntmps11
  go_wp2
  case _ => go_ret; exact ⟨sizeOk_false, rfl⟩
  case _ => go_ret; exact ⟨sizeOk_false, rfl⟩
  case _ => go_ret; exact ⟨sizeOk_false, rfl⟩
  refine wp_loop_rounds 1 ?_
  rw [rounds_succ]
  go_wp2
  go_ret
  exact ⟨sizeOk_true (by omega), rfl⟩

set_option maxHeartbeats 400000 in
set_option maxRecDepth 100000 in
theorem vbytes_ne (r c : ByteArray) (vs : List ZVal) (b o cp : Nat) (w : World) (hle : r.size + c.size + vs.length + sumTo vs vs.length ≤ 1048576) (hcells : Hid (Cells w b o vs)) :
    Calls Tryd.prog 12 #[.string r, .string c, .slice (some ⟨b, o, none⟩) vs.length cp] w fun e w' => SomeInt e ∧ w' = w := by
  have hmono : Hid (∀ k, k ≤ vs.length → sumTo vs k ≤ sumTo vs vs.length) := fun k _ => sum_le vs k
  go_enter Tryd.func12, Tryd.ntmps12
  go_wp2
  case _ => go_ret; exact ⟨someInt _, rfl⟩
  case _ => go_ret; exact ⟨someInt _, rfl⟩
  have h32 : vs.length ≤ 32768 := by omega
  go_loop [7, 8] (fun z i => ∃ k : Nat, k ≤ vs.length ∧ i = .int .i64 k ∧ z = .int .i64 (r.size + c.size + vs.length * 32 + sumTo vs k)) (fun _ i => vs.length - (intOf i).toNat)
  case atStart => exact ⟨0, Nat.zero_le _, rfl, by simp [sumTo]⟩
  case round =>
    obtain ⟨k, hk, rfl, rfl⟩ := hrel
    by_cases hlt : k < vs.length
    · have hS : Hid (sumTo vs (k + 1) = sumTo vs k + vs[k].text.size) := sum_snoc vs k hlt
      have hS2 : sumTo vs k + vs[k].text.size ≤ sumTo vs vs.length := by rw [← hS.out]; exact hmono.out _ hlt
      obtain ⟨c0, _, _, _⟩ := hcells.out k hlt
      generalize vs[k].text = tx at *
      go_wp2
      case _ => go_ret; exact ⟨someInt _, rfl⟩
      exact ⟨⟨k + 1, by omega, by go_num, by rw [hS.out]; go_num⟩, by simp [intOf]; omega⟩
    · go_wp2
      go_ret
      exact ⟨someInt _, rfl⟩

set_option maxHeartbeats 400000 in
set_option maxRecDepth 100000 in
theorem vbytes_no (r c : ByteArray) (a : Option Addr) (cp : Nat) (w : World) (hle : r.size + c.size ≤ 1048576) :
    Calls Tryd.prog 12 #[.string r, .string c, .slice a 0 cp] w fun e w' => SomeInt e ∧ w' = w := by
  go_enter Tryd.func12, Tryd.ntmps12
  go_wp2
  refine wp_loop_rounds 1 ?_
  rw [rounds_succ]
  go_wp2
  go_ret
  exact ⟨someInt _, rfl⟩
end Go.Proofs.Qxb6606343aDoor
