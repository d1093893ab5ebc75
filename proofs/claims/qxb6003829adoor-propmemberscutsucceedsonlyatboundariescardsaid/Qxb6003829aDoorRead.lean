/-
  Seat b6003829aD: the walks of errors.New (15), memberSize (17), readMember (16).
-/
import Derived.Test.Qxb6003829aDoorTrim
import Derived.Deep.OwnRows
import Derived.BigRegion
import Derived.RegionTactic
namespace Go.Proofs.Qxb6003829aDoor
open Go.RowKit

theorem toStr (l : List UInt8) (b o c : Nat) (w : World) (h : Bs w b o l) : (convert 23 9 (.slice (some ⟨b, o, none⟩) l.length c)).run Tryd.prog w = .ok (.string ⟨l.toArray⟩) w :=
  run_convert_bytes_back w 23 9 5 ⟨b, o, none⟩ c l Tryd.underlying23 Tryd.underlying5 Tryd.underlying9 fun j hj => by
    have : (⟨b, o, none⟩ : Addr).add j = ⟨b, o + j, none⟩ := by
      unfold Addr.add
      by_cases h0 : j = 0
      · subst h0; simp
      · simp [h0]
    rw [this]
    exact h j hj

theorem trim_drop (f : List UInt8) : Lib.trimSpace f = (f.drop (Lib.spLo f)).take (Lib.trimSpace f).length := by
  have h1 : f.dropWhile Lib.isSp = f.drop (Lib.spLo f) := by
    unfold Lib.spLo
    have hs : f.dropWhile Lib.isSp <:+ f := List.dropWhile_suffix _
    obtain ⟨t, ht⟩ := hs
    have hl : f.length = t.length + (f.dropWhile Lib.isSp).length := by conv => lhs; rw [← ht, List.length_append]
    have : f.length - (f.dropWhile Lib.isSp).length = t.length := by omega
    rw [this]
    conv => rhs; rw [← ht]
    rw [List.drop_left]
  have h2 : Lib.trimSpace f <+: f.dropWhile Lib.isSp := by
    unfold Lib.trimSpace
    have : (f.dropWhile Lib.isSp).reverse.dropWhile Lib.isSp <:+ (f.dropWhile Lib.isSp).reverse := List.dropWhile_suffix _
    have := List.reverse_prefix.2 this
    rwa [List.reverse_reverse] at this
  rw [← h1]
  exact List.prefix_iff_eq_take.1 h2

theorem str_of_trim {b o c : Nat} {f : List UInt8} {w : World} {v : Value} (hv : Within b o f.length v) (hB : Bs w b o f) :
    ∃ s : ByteArray, s.size ≤ f.length ∧ (convert 23 9 v).run Tryd.prog w = .ok (.string s) w ∧ (v = Lib.bytesTrimSpace b o c f → s.data.toList = Lib.trimSpace f) := by
  rcases hv with rfl | ⟨o', n', c', rfl, h1, h2, h3⟩
  · refine ⟨ByteArray.empty, Nat.zero_le _, run_convert_bytes_nil w 23 5 Tryd.underlying23 Tryd.underlying5 0 0 9 Tryd.underlying9, fun h => ?_⟩
    unfold Lib.bytesTrimSpace at h
    split at h
    · rename_i hd
      unfold Lib.trimSpace
      rw [hd]
      rfl
    · cases h
  · obtain ⟨k, rfl⟩ : ∃ k, o' = o + k := ⟨o' - o, by omega⟩
    have hlen : ((f.drop k).take n').length = n' := by rw [List.length_take, List.length_drop]; omega
    have hc := toStr ((f.drop k).take n') b (o + k) c' w ((hB.drop k).take n')
    rw [hlen] at hc
    refine ⟨⟨((f.drop k).take n').toArray⟩, by show ((f.drop k).take n').toArray.size ≤ _; simp; omega, hc, fun h => ?_⟩
    unfold Lib.bytesTrimSpace at h
    split at h
    · cases h
    · simp only [Value.slice.injEq, Option.some.injEq, Addr.mk.injEq] at h
      obtain ⟨⟨_, h4, _⟩, h5, _⟩ := h
      show (f.drop k).take n' = _
      rw [trim_drop f, ← h5, show Lib.spLo f = k by omega]

set_option maxHeartbeats 400000 in
set_option maxRecDepth 100000 in
theorem errorsNew (s : ByteArray) (w : World) : Calls Tryd.prog 15 #[.string s] w fun e w' => (∃ t p, e = .returned (.iface t p)) ∧ Below w.heap.size w w' := by
  go_enter Tryd.func15, Tryd.ntmps15
  go_wp2
  go_ret
  exact ⟨⟨_, _, rfl⟩, (Below.refl _ _).alloc (Nat.le_refl _) _⟩

theorem end_neg {x : Int} (h : x < 0) : ofEnd (.ok x) = none := by simp [ofEnd, h]
theorem end_nat (n : Nat) : ofEnd (.ok (n : Int)) = some n := by simp [ofEnd]

theorem atoi_cases {h : List UInt8} {s : ByteArray} {x : Int} {er : Value} (hor : (Lib.atoiAll s.data.toList = .ok x ∧ er = .nilIface) ∨ ((∀ v, Lib.atoiAll s.data.toList ≠ .ok v) ∧ ∃ t p, er = .iface t p))
    (hm : MS h (ofEnd (Lib.atoiAll s.data.toList))) : (∃ t p, er = .iface t p ∧ Hid (MS h none)) ∨ (x < 0 ∧ er = .nilIface ∧ Hid (MS h none)) ∨ ∃ n : Nat, x = (n : Int) ∧ er = .nilIface ∧ Hid (MS h (some n)) := by
  rcases hor with ⟨hok, he⟩ | ⟨hno, t, p, he⟩
  · rw [hok] at hm
    by_cases hx : x < 0
    · rw [end_neg hx] at hm
      exact .inr (.inl ⟨hx, he, hm⟩)
    · obtain ⟨n, rfl⟩ := Int.eq_ofNat_of_zero_le (show 0 ≤ x by omega)
      rw [end_nat] at hm
      exact .inr (.inr ⟨n, rfl, he, hm⟩)
  · refine .inl ⟨t, p, he, ?_⟩
    cases e : Lib.atoiAll s.data.toList with
    | ok v => exact absurd e (hno v)
    | _ => rw [e] at hm; exact hm

/-- What memberSize answers at the header h. -/
def SizePost (h : List UInt8) (w : World) (e : Ending) (w' : World) : Prop :=
  (∃ res, MS h res ∧ ((∃ n : Nat, res = some n ∧ e = .returned (.tuple #[.int .i64 n, .nilIface])) ∨ (res = none ∧ ∃ t p, e = .returned (.tuple #[.int .i64 0, .iface t p])))) ∧ Below w.heap.size w w'

set_option maxHeartbeats 400000 in
set_option maxRecDepth 100000 in
theorem memberSize (h : List UInt8) (b o c : Nat) (w : World) (hl : h.length = 60) (hc : 60 ≤ c) (hb : b < w.heap.size) (hB : Hid (Bs w b o h)) (E : Hid (Env w)) :
    Calls Tryd.prog 17 #[.slice (some ⟨b, o, none⟩) 60 c] w (SizePost h w) := by
  have hf : (fieldOf h).length = 10 := by unfold fieldOf; rw [List.length_take, List.length_drop]; omega
  have hBf : Hid (Bs w b (o + 48) (fieldOf h)) := (hB.out.drop 48).take 10
  have cT := trimSpace (fieldOf h) b (o + 48) (c - 48) w (by omega) (by omega) hBf.out E.out
  have Hf : Hid ((fieldOf h).length = 10) := hf
  rw [hf] at cT
  clear hf hl
  unfold SizePost
  have Close : Hid (∀ (s : ByteArray), Hid ((∀ x ∈ fieldOf h, x.toNat < 128) → s.data.toList = Lib.trimSpace (fieldOf h)) → MS h (ofEnd (Lib.atoiAll s.data.toList))) := fun s hs hh => by
    unfold szA
    rw [hs.out hh]
  go_enter Tryd.func17, Tryd.ntmps17
  go_wp2_with (first
    | (go_at_call 20; go_fit cT; rintro e W1 ⟨⟨v, rfl, hv, ha⟩, hb1⟩; obtain ⟨s, hs1, hcv, hs2⟩ := str_of_trim (c := c - 48) hv (hBf.out.below hb hb1); have Hs2 : Hid ((∀ x ∈ fieldOf h, x.toNat < 128) → s.data.toList = Lib.trimSpace (fieldOf h)) := (fun hh => hs2 (ha hh)); clear hv ha hs2)
    | (go_at_call 19; refine (atoi s (by rw [Hf.out] at hs1; omega) _ (E.out.below hb1)).mono ?_; rintro e W2 ⟨⟨x, er, rfl, hor⟩, hb2⟩; clear cT; have hor' := atoi_cases hor (Close.out s Hs2); clear hor Hs2; obtain ⟨t, p, rfl, hms⟩ | ⟨hx, rfl, hms⟩ | ⟨n, rfl, rfl, hms⟩ := hor')
    | (go_at_call 15; refine (errorsNew _ _).mono ?_; rintro e W3 ⟨⟨t', p', rfl⟩, hb3⟩))
  · go_ret2
    exact ⟨⟨none, hms.out, .inr ⟨rfl, _, _, rfl⟩⟩, (hb1.trans (hb2.mono hb1.size)).trans (hb3.mono (hb1.trans (hb2.mono hb1.size)).size)⟩
  · go_ret2
    exact ⟨⟨none, hms.out, .inr ⟨rfl, _, _, rfl⟩⟩, (hb1.trans (hb2.mono hb1.size)).trans (hb3.mono (hb1.trans (hb2.mono hb1.size)).size)⟩
  · go_ret2
    exact ⟨⟨some n, hms.out, .inl ⟨n, rfl, rfl⟩⟩, hb1.trans (hb2.mono hb1.size)⟩

theorem fresh46 {w W : World} (hb : Below (w.alloc (.cells #[.string ⟨#[]⟩, .int .i64 0, .slice none 0 0] 46)).heap.size (w.alloc (.cells #[.string ⟨#[]⟩, .int .i64 0, .slice none 0 0] 46)) W) :
    W.cell? ⟨w.heap.size, 0, none⟩ = some (.string ⟨#[]⟩) ∧ W.cell? ⟨w.heap.size, 1, none⟩ = some (.int .i64 0) ∧ W.cell? ⟨w.heap.size, 2, none⟩ = some (.slice none 0 0) ∧
      W.frozen? ⟨w.heap.size, 0, none⟩ = false ∧ W.frozen? ⟨w.heap.size, 1, none⟩ = false ∧ W.frozen? ⟨w.heap.size, 2, none⟩ = false := by
  have hlt : w.heap.size < (w.alloc (.cells #[.string ⟨#[]⟩, .int .i64 0, .slice none 0 0] 46)).heap.size := by simp
  refine ⟨?_, ?_, ?_, ?_, ?_, ?_⟩
  · rw [hb.cell (p := ⟨w.heap.size, 0, none⟩) hlt, World.cell?_alloc_mark]; rfl
  · rw [hb.cell (p := ⟨w.heap.size, 1, none⟩) hlt, World.cell?_alloc_mark]; rfl
  · rw [hb.cell (p := ⟨w.heap.size, 2, none⟩) hlt, World.cell?_alloc_mark]; rfl
  · rw [hb.frozen (p := ⟨w.heap.size, 0, none⟩) hlt, World.frozen?_alloc_at _ _ _ _ rfl]
  · rw [hb.frozen (p := ⟨w.heap.size, 1, none⟩) hlt, World.frozen?_alloc_at _ _ _ _ rfl]
  · rw [hb.frozen (p := ⟨w.heap.size, 2, none⟩) hlt, World.frozen?_alloc_at _ _ _ _ rfl]

/-- The data of a member that was read: g.len bytes of the archive itself (where there are none, at whatever address). -/
def DataAt (b o : Nat) (g : Got) (v : Value) : Prop := ∃ a cp, v = .slice (some a) g.len cp ∧ (0 < g.len → a = ⟨b, o + g.off, none⟩)
/-- What readMember answers. -/
def ReadPost (l : List UInt8) (b o off : Nat) (w : World) (e : Ending) (w' : World) : Prop :=
  ((∃ g v, Step l off g ∧ DataAt b o g v ∧ e = .returned (.tuple #[.agg #[.string ⟨g.name.toArray⟩, .int .i64 g.off, v], .nilIface])) ∨
    (Fails l off ∧ ∃ t p, e = .returned (.tuple #[.agg #[.string ⟨#[]⟩, .int .i64 0, .slice none 0 0], .iface t p]))) ∧ Below w.heap.size w w'

set_option maxHeartbeats 400000 in
set_option maxRecDepth 100000 in
theorem readShort (l : List UInt8) (b o c off : Nat) (w : World) (hc : l.length ≤ c) (ho : off < l.length) (hs : l.length - off < 60) (E : Hid (Env w)) :
    Calls Tryd.prog 16 #[.slice (some ⟨b, o, none⟩) l.length c, .int .i64 off] w (ReadPost l b o off w) := by
  obtain ⟨t, p, htr⟩ := E.out.trunc
  unfold ReadPost
  have h1 : ¬ c = off := by omega
  have h2 : ((l.length - off : Nat) : Int) < 60 := by omega
  have h3 : (off : Int) ≤ (l.length : Int) := by omega
  have h0 : 0 < w.heap.size := World.block_lt_of_cell? w _ htr
  have h0' : ¬ w.heap.size = 0 := by omega
  have h0'' : ¬ 0 = w.heap.size := by omega
  have htr' := (World.cell?_alloc_past (w := w) (.cells #[.string ⟨#[]⟩, .int .i64 0, .slice none 0 0] 46) 0 0 h0).trans htr
  have hF : Hid (Fails l off) := .inl (by omega)
  generalize l.length = n at *
  go_enter Tryd.func16, Tryd.ntmps16
  go_wp2
  go_region
  go_wp2
  refine bodyPost_ret (v := .tuple #[.agg #[.string ⟨#[]⟩, .int .i64 0, .slice none 0 0], .iface t p]) (by simp [results, Tryd.results16, go_sem]) rfl ?_
  exact ⟨.inr ⟨hF.out, _, _, rfl⟩, ((Below.refl _ _).alloc (Nat.le_refl _) _).drew⟩

set_option maxHeartbeats 400000 in
set_option maxRecDepth 100000 in
theorem readLong (l : List UInt8) (b o c off : Nat) (w : World) (hl : l.length ≤ 8388608) (hc : l.length ≤ c) (ho : off < l.length) (hs : 60 ≤ l.length - off) (hb : b < w.heap.size) (hB : Hid (Bs w b o l)) (E : Hid (Env w)) :
    Calls Tryd.prog 16 #[.slice (some ⟨b, o, none⟩) l.length c, .int .i64 off] w (ReadPost l b o off w) := by
  obtain ⟨t, p, htr⟩ := E.out.trunc
  have h0 : 0 < w.heap.size := World.block_lt_of_cell? w _ htr
  have h0' : ¬ w.heap.size = 0 := by omega
  have h0'' : ¬ 0 = w.heap.size := by omega
  have hlen : (hdrAt l off).length = 60 := by unfold hdrAt; rw [List.length_take, List.length_drop]; omega
  have hbel : Hid (Below w.heap.size w (w.alloc (.cells #[.string ⟨#[]⟩, .int .i64 0, .slice none 0 0] 46))) := (Below.refl _ _).alloc (Nat.le_refl _) _
  have hBh : Hid (Bs w b (o + off) (hdrAt l off)) := (hB.out.drop off).take 60
  have cM := memberSize (hdrAt l off) b (o + off) (c - off) (w.alloc (.cells #[.string ⟨#[]⟩, .int .i64 0, .slice none 0 0] 46)) hlen (by omega) (by simp; omega) (hBh.out.below hb hbel.out) (E.out.below hbel.out)
  have hl16 : ((hdrAt l off).take 16).length = 16 := by rw [List.length_take]; omega
  have cN : ∀ W, Below w.heap.size w W → Calls Tryd.prog 18 #[.slice (some ⟨b, o + off, none⟩) 16 (c - off), .string ⟨#[32]⟩] W fun e w' => e = .returned (.slice (some ⟨b, o + off, none⟩) (rtrim ((hdrAt l off).take 16)).length (c - off)) ∧ w' = W := fun W hW => by
    have := trimRight ((hdrAt l off).take 16) b (o + off) (c - off) W (by omega) (by omega) (by omega) ((hBh.out.below hb hW).take 16)
    rwa [hl16] at this
  have cV : ∀ W, Below w.heap.size w W → (convert 23 9 (.slice (some ⟨b, o + off, none⟩) (rtrim ((hdrAt l off).take 16)).length (c - off))).run Tryd.prog W = .ok (.string ⟨(rtrim ((hdrAt l off).take 16)).toArray⟩) W := fun W hW => by
    refine toStr _ b (o + off) (c - off) W ?_
    rw [rtrim_take]
    exact ((hBh.out.below hb hW).take 16).take _
  obtain ⟨nm, hnm⟩ : ∃ nm, nm = rtrim ((hdrAt l off).take 16) := ⟨_, rfl⟩
  rw [← hnm] at cN cV
  have Hnm : Hid (nm = rtrim ((hdrAt l off).take 16)) := hnm
  obtain ⟨n, hn⟩ : ∃ n, n = l.length := ⟨_, rfl⟩
  have Hn : Hid (n = l.length) := hn
  rw [← hn] at hl hc ho hs ⊢
  clear hn hlen hnm
  have h1 : ¬ c = off := by omega
  have h2 : ¬ ((n - off : Nat) : Int) < 60 := by omega
  have h3 : (off : Int) ≤ (n : Int) := by omega
  go_enter Tryd.func16, Tryd.ntmps16
  go_wp2_with (first
    | (go_at_call 17; go_fit cM; rintro e W1 ⟨⟨res, hms, ⟨N, rfl, rfl⟩ | ⟨rfl, t', p', rfl⟩⟩, hb1⟩ <;> obtain ⟨k0, k1, k2, z0, z1, z2⟩ := fresh46 hb1 <;> have htr1 := (hb1.cell (p := ⟨0, 0, none⟩) (by simp)).trans ((hbel.out.cell (p := ⟨0, 0, none⟩) h0).trans htr) <;> have hbw : Hid (Below w.heap.size w W1) := hbel.out.trans (hb1.mono (by simp)))
    | (go_at_call 18; go_fit (cN _ hbw.out); rintro e W2 ⟨rfl, rfl⟩; have hcv := cV _ hbw.out))
  · go_region
    go_wp2
    refine bodyPost_ret (v := .tuple #[.agg #[.string ⟨#[]⟩, .int .i64 0, .slice none 0 0], .iface t p]) (by simp [results, Tryd.results16, go_sem, k0, k1, k2]) rfl ?_
    exact ⟨.inr ⟨.inr ⟨some N, hms, fun m hm => by cases hm; have := Hn.out; omega⟩, _, _, rfl⟩, (((hbw.out.setCell (Nat.le_refl _) _).setCell (Nat.le_refl _) _).setCell (Nat.le_refl _) _).drew⟩
  · refine bodyPost_ret (v := .tuple #[.agg #[.string ⟨nm.toArray⟩, .int .i64 (off + 60 : Int), .slice (some ⟨b, o + off, none⟩) N 0], .nilIface]) (by simp [results, Tryd.results16, go_sem, k0, k1, k2]) rfl ?_
    refine ⟨.inl ⟨⟨nm, off + 60, N⟩, .slice (some ⟨b, o + off, none⟩) N 0, ⟨?_, hms, rfl, Hnm.out⟩, ⟨_, _, rfl, fun h => ?_⟩, by simp⟩, ((hbw.out.setCell (Nat.le_refl _) _).setCell (Nat.le_refl _) _).setCell (Nat.le_refl _) _⟩
    · have := Hn.out
      show off + 60 + N ≤ _
      omega
    · have : 0 < N := h
      omega
  · refine bodyPost_ret (v := .tuple #[.agg #[.string ⟨nm.toArray⟩, .int .i64 (off + 60 : Int), .slice (some ⟨b, o + off + 60, none⟩) N (c - off - 60)], .nilIface]) (by simp [results, Tryd.results16, go_sem, k0, k1, k2]) rfl ?_
    refine ⟨.inl ⟨⟨nm, off + 60, N⟩, .slice (some ⟨b, o + off + 60, none⟩) N (c - off - 60), ⟨?_, hms, rfl, Hnm.out⟩, ⟨_, _, rfl, fun _ => rfl⟩, by simp⟩, ((hbw.out.setCell (Nat.le_refl _) _).setCell (Nat.le_refl _) _).setCell (Nat.le_refl _) _⟩
    have := Hn.out
    show off + 60 + N ≤ _
    omega
  · go_region
    go_wp2
    refine bodyPost_ret (v := .tuple #[.agg #[.string ⟨#[]⟩, .int .i64 0, .slice none 0 0], .iface t p]) (by simp [results, Tryd.results16, go_sem, k0, k1, k2]) rfl ?_
    exact ⟨.inr ⟨.inr ⟨none, hms, fun m hm => by cases hm⟩, _, _, rfl⟩, (((hbw.out.setCell (Nat.le_refl _) _).setCell (Nat.le_refl _) _).setCell (Nat.le_refl _) _).drew⟩

theorem readMember (l : List UInt8) (b o c off : Nat) (w : World) (hl : l.length ≤ 8388608) (hc : l.length ≤ c) (ho : off < l.length) (hb : b < w.heap.size) (hB : Bs w b o l) (E : Env w) :
    Calls Tryd.prog 16 #[.slice (some ⟨b, o, none⟩) l.length c, .int .i64 off] w (ReadPost l b o off w) := by
  by_cases hs : l.length - off < 60
  · exact readShort l b o c off w hc ho hs E
  · exact readLong l b o c off w hl hc ho (by omega) hb hB E
end Go.Proofs.Qxb6003829aDoor
