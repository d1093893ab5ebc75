/-
  Seat b6003829aD: the walk of zza1Itoa (13).
-/
import Derived.Test.Qxb6003829aDoorMembers
namespace Go.Proofs.Qxb6003829aDoor
open Go.RowKit Go.Lib

theorem info5 : (Tryd.prog.info? 5).map (fun i => (i.zero, i.size, i.bytes)) = some (some (.int .u8 0), 1, 1) := by kernel_rfl

/-- What is still to be written in front of ds. -/
def Rest (N m : Nat) (ds : List UInt8) : Prop := (0 < m ∧ decDigits N = decDigits m ++ ds) ∨ (m = 0 ∧ decDigits N = ds)

theorem rest_start {N : Nat} (h : 0 < N) : Rest N N [] := .inl ⟨h, by simp⟩
theorem digits_small {m : Nat} (h : m < 10) : decDigits m = [UInt8.ofNat (48 + m)] := by rw [decDigits, dif_pos h]
theorem digits_big {m : Nat} (h : ¬ m < 10) : decDigits m = decDigits (m / 10) ++ [UInt8.ofNat (48 + m % 10)] := by rw [decDigits, dif_neg h]
theorem rest_step {N m : Nat} {ds : List UInt8} (h : Rest N m ds) (hm : 0 < m) : Rest N (m / 10) (UInt8.ofNat (48 + m % 10) :: ds) := by
  rcases h with ⟨_, h⟩ | ⟨h0, _⟩
  · by_cases h10 : m < 10
    · rw [digits_small h10] at h
      right
      refine ⟨by omega, ?_⟩
      rw [h, show m % 10 = m by omega]
      rfl
    · rw [digits_big h10] at h
      left
      refine ⟨by omega, ?_⟩
      rw [h, List.append_assoc]
      rfl
  · omega
theorem rest_len {N m : Nat} {ds : List UInt8} (h : Rest N m ds) (hN : N ≤ 65536) : ds.length ≤ 5 ∧ (0 < m → ds.length ≤ 4) := by
  have h5 := digits_short hN
  rcases h with ⟨_, h⟩ | ⟨_, h⟩
  · have : 0 < (decDigits m).length := List.length_pos_iff.2 (digits_ne m)
    rw [h, List.length_append] at h5
    exact ⟨by omega, fun _ => by omega⟩
  · rw [h] at h5
    exact ⟨h5, fun _ => by omega⟩

/-- What zza1Itoa answers. -/
def ItoaPost (N : Nat) (w : World) (e : Ending) (w' : World) : Prop :=
  (∃ g cap, e = .returned (.slice (some ⟨g, 0, none⟩) (decDigits N).length cap) ∧ (decDigits N).length ≤ cap ∧ w.heap.size ≤ g ∧ Bs w' g 0 (decDigits N)) ∧ Below w.heap.size w w'

set_option maxHeartbeats 400000 in
set_option maxRecDepth 100000 in
theorem itoaZero (w : World) : Calls Tryd.prog 13 #[.int .i64 0] w (ItoaPost 0 w) := by
  go_enter Tryd.func13, Tryd.ntmps13
  go_wp2
  go_ret
  have h1 : decDigits 0 = [48] := digits_small (by omega)
  unfold ItoaPost
  rw [h1]
  refine ⟨⟨w.heap.size, 1, rfl, Nat.le_refl _, Nat.le_refl _, fun j hj => ?_⟩, (Below.refl _ _).alloc (Nat.le_refl _) _⟩
  obtain rfl : j = 0 := by simpa using hj
  rw [World.cell?_alloc_mark]
  rfl

/-- The digits in the array, from k on. -/
def Dg (f : Nat → Value) (k : Nat) (ds : List UInt8) : Prop := ∀ (j : Nat) (h : j < ds.length), f (k + j) = .int .u8 (ds[j].toNat : Int)

/-- The loop's relation. -/
def ILoop (N : Nat) (w : World) (n i : Value) (wr : World) : Prop :=
  ∃ (m k : Nat) (f : Nat → Value) (ds : List UInt8), n = .int .i64 m ∧ i = .int .i64 k ∧ k + ds.length = 20 ∧ m ≤ 65536 ∧ Rest N m ds ∧ Dg f k ds ∧ wr.rowIs w.heap.size 51 20 f ∧ Below w.heap.size w wr

theorem iloop_start (N : Nat) (h0 : 0 < N) (hN : N ≤ 65536) (w : World) : ILoop N w (.int .i64 N) (.int .i64 20) (w.alloc (.cells (Array.replicate 20 (.int .u8 0)) 51)) := by
  refine ⟨N, 20, fun _ => .int .u8 0, [], rfl, rfl, rfl, hN, rest_start h0, fun j hj => by simp at hj, ?_, (Below.refl _ _).alloc (Nat.le_refl _) _⟩
  have := World.rowIs_alloc w (Array.replicate 20 (.int .u8 0)) 51 (fun _ => .int .u8 0) (fun i hi => by
    rw [Array.size_replicate] at hi
    simp [hi])
  simpa using this

theorem byte_digit (m : Nat) : ((UInt8.ofNat (48 + m % 10)).toNat : Int) = 48 + (m : Int) % 10 := by
  have h := digit_range (m % 10) (by omega)
  have : (UInt8.ofNat (48 + m % 10)).toNat = 48 + m % 10 := by
    rw [UInt8.toNat_ofNat']
    omega
  rw [this]
  omega

theorem iloop_step {N m k : Nat} {w wr : World} {f : Nat → Value} {ds : List UInt8} (hk : k + 1 + ds.length = 20) (hm : 0 < m) (hmb : m ≤ 65536) (hR : Rest N m ds) (hD : Dg f (k + 1) ds) (hrow : wr.rowIs w.heap.size 51 20 f) (hnx : Below w.heap.size w wr) :
    ILoop N w (.int .i64 ((m / 10 : Nat) : Int)) (.int .i64 k) (wr.setCell ⟨w.heap.size, k, none⟩ (.int .u8 (48 + (m : Int) % 10))) := by
  refine ⟨m / 10, k, _, UInt8.ofNat (48 + m % 10) :: ds, rfl, rfl, by simp; omega, by omega, rest_step hR hm, ?_, hrow.set k _, hnx.setCell (Nat.le_refl _) _⟩
  intro j hj
  cases j with
  | zero =>
    simp only [Nat.add_zero, if_true, List.getElem_cons_zero]
    rw [byte_digit]
  | succ j =>
    simp only [List.getElem_cons_succ]
    rw [if_neg (by omega), show k + (j + 1) = k + 1 + j by omega]
    exact hD j (by simpa using hj)

/-- The row's cells, read as bytes. -/
theorem row_bytes {w : World} {b k : Nat} {f : Nat → Value} {ds : List UInt8} (hrow : w.rowIs b 51 20 f) (hk : k + ds.length = 20) (hD : Dg f k ds) : Bs w b k ds := fun j hj => by
  rw [hrow.cell (i := k + j) (by omega), hD j hj]

/-- The bytes as cells. -/
def bcells (l : List UInt8) : List Value := l.map fun x => .int .u8 (x.toNat : Int)
theorem bcells_len (l : List UInt8) : (bcells l).length = l.length := by simp [bcells]
theorem bcells_one (l : List UInt8) : ∀ u ∈ bcells l, u.oneCell' = true := by
  intro u hu
  obtain ⟨x, _, rfl⟩ := List.mem_map.1 hu
  rfl
theorem add_at (b o j : Nat) : (⟨b, o, none⟩ : Addr).add j = ⟨b, o + j, none⟩ := by
  unfold Addr.add
  by_cases h0 : j = 0
  · subst h0; simp
  · simp [h0]
theorem Bs.news {w : World} {b o : Nat} {l : List UInt8} (h : Bs w b o l) : ∀ (j : Nat) (u : Value), (bcells l)[j]? = some u → w.cell? ((⟨b, o, none⟩ : Addr).add j) = some u := by
  intro j u hj
  have hl : j < l.length := by have := (List.getElem?_eq_some_iff.1 hj).1; rwa [bcells_len] at this
  rw [add_at, h j hl]
  simpa [bcells, hl] using hj
/-- An owned row of bytes. -/
theorem own_bytes {w : World} {base : Nat} {v : Value} {l : List UInt8} (h : w.ownsRow base 5 1 v l.length (bcells l)) (hl : 0 < l.length) :
    ∃ g cap, v = .slice (some ⟨g, 0, none⟩) l.length cap ∧ l.length ≤ cap ∧ base ≤ g ∧ g < w.heap.size ∧ Bs w g 0 l := by
  have hh := h
  rcases h.2 with ⟨rfl, h0⟩ | ⟨g, cap, cur, rfl, hb, hg, hc, _⟩
  · omega
  · refine ⟨g, cap, rfl, hc, hb, (hh.lt g rfl).2, fun j hj => ?_⟩
    rw [Nat.zero_add, hh.cellAt j (by omega)]
    simp [bcells, hj]

theorem slice_arr (b k : Nat) (hk : k < 20) (w : World) : (Instr.sliceAt 51 (.pointer (some ⟨b, 0, none⟩)) (some (.int .i64 k)) none none).run Tryd.prog w = .ok (.slice (some ⟨b, k, none⟩) (20 - k) (20 - k)) w := by
  have h20 : Tryd.prog.arrayLen 51 = 20 := by kernel_rfl
  have hel : Tryd.prog.elem 51 = 5 := by kernel_rfl
  have hu : Tryd.prog.underlying 51 = some (.array (Tryd.prog.arrayLen 51) (Tryd.prog.elem 51)) := by kernel_rfl
  have hsz : (sizeOf 5).run Tryd.prog w = .ok 1 w := by
    obtain ⟨i0, hi, _, hz1, _⟩ := info_parts info5
    simp [sizeOf, typeInfo, hi, hz1]
  rw [run_sliceAt_array_l (P := Tryd.prog) w 51 ⟨b, 0, none⟩ hu .i64 k (by omega) (by rw [h20]; omega), hel, hsz, h20]
  simp only [Result.andThen, slicedAt, Int.toNat_natCast]
  rw [if_neg (by omega), Nat.mul_one, add_at, Nat.zero_add]

set_option maxHeartbeats 400000 in
set_option maxRecDepth 100000 in
theorem itoaPos (N : Nat) (h0 : 0 < N) (hN : N ≤ 65536) (w : World) : Calls Tryd.prog 13 #[.int .i64 N] w (ItoaPost N w) := by
  obtain ⟨i0, hi, hz0, hz1, hz2⟩ := info_parts info5
  have hst := Hid.out (iloop_start N h0 hN w : Hid _)
  have HST : Hid (ILoop N w (.int .i64 N) (.int .i64 20) (w.alloc (.cells (Array.replicate 20 (.int .u8 0)) 51))) := hst
  clear hst
  go_enter Tryd.func13, Tryd.ntmps13
  go_wp2
  go_loopw [0, 4] (fun n i wr => ILoop N w n i wr) (fun n _ _ => (intOf n).toNat)
  case atStart => exact HST.out
  case round =>
    obtain ⟨m, k, f, ds, rfl, rfl, hk, hmb, hR, hD, hrow, hnx⟩ := hrel
    have hlen := rest_len hR hN
    by_cases hm : 0 < m
    · obtain ⟨k, rfl⟩ : ∃ k', k = k' + 1 := ⟨k - 1, by have := hlen.2 hm; omega⟩
      have hk19 : k < 20 := by omega
      have hstep : Hid _ := iloop_step hk hm hmb hR hD hrow hnx
      have e0 := hrow.cell (i := k) (by omega)
      have z0 := hrow.frozen k
      clear hR hD hlen HST
      go_wp2
      have hm10 : ((m / 10 : Nat) : Int) = (m : Int) / 10 := by omega
      have := hstep.out
      rw [hm10] at this
      exact ⟨this, by simp only [intOf]; omega⟩
    · obtain rfl : m = 0 := by omega
      have hds : Hid (decDigits N = ds) := by
        rcases hR with ⟨h, _⟩ | ⟨_, h⟩
        · omega
        · exact h
      have hB : Hid (Bs wr w.heap.size k ds) := row_bytes hrow hk hD
      have hdl : ds.length = 20 - k := by omega
      have hpos : 0 < ds.length := by rw [← hds.out]; exact List.length_pos_iff.2 (digits_ne N)
      have hsl := slice_arr w.heap.size k (by omega) wr
      rw [← hdl] at hsl
      clear hR hD hdl
      go_wp2_with (at_builtin; refine wpList_append_own _ rfl (.const (.slice none 0 0)) (.tmp 21) 23 rfl w.heap.size 5 i0 (.int .u8 0) 1 1 Tryd.underlying23 hi hz0 hz1 hz2 rfl (by decide) _ 0 [] rfl (World.ownsRow_nil _ _ _ _) ⟨w.heap.size, k, none⟩ ds.length ds.length (bcells ds) rfl (by rw [bcells_len]; simp) hB.out.news (bcells_one ds) (by unfold maxLen; omega) (by omega) hnx.size ?_; intro v' w1 hown' hgrow _; simp only [Nat.zero_add, List.nil_append] at hown'; obtain ⟨g, cap, rfl, hcap, hg1, hg2, hBs⟩ := own_bytes hown' hpos)
      go_ret
      unfold ItoaPost
      rw [hds.out]
      exact ⟨⟨g, cap, rfl, hcap, hg1, hBs⟩, hnx.grown hgrow hnx.size (fun k hk => by cases hk)⟩

theorem itoa (N : Nat) (hN : N ≤ 65536) (w : World) : Calls Tryd.prog 13 #[.int .i64 N] w (ItoaPost N w) := by
  by_cases h : 0 < N
  · exact itoaPos N h hN w
  · obtain rfl : N = 0 := by omega
    exact itoaZero w
end Go.Proofs.Qxb6003829aDoor
