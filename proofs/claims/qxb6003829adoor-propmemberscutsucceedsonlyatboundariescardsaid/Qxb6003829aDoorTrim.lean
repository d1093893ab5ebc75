/-
  Seat b6003829aD: what the package-level variables hold ('Env'); bytes.TrimSpace (20) at every slice of bytes: nil or a piece of its argument, and on ASCII bytes the shelf's answer; strconv.Atoi (19).
-/
import Derived.Test.Qxb6003829aDoorBase
import Derived.Test.Qxb6003829aDoorShelf
import Derived.Shelf.Unicode.PredsPay
namespace Go.Proofs.Qxb6003829aDoor
open Go.RowKit

/-- The listed variables, as they are laid. -/
structure Env (w : World) : Prop where
  trunc : ∃ t p, w.cell? ⟨0, 0, none⟩ = some (.iface t p)
  tab : Lib.TabIs Tryd.prog w "bytes.asciiSpace" .u8 Lib.asciiSpaceTab
  utf : Lib.Utf8Tabs 5 6 w
  white : Lib.WhiteTab 2 w
  esyn : ∃ t p, w.cell? ⟨3, 0, none⟩ = some (.iface t p)
  erng : ∃ t p, w.cell? ⟨4, 0, none⟩ = some (.iface t p)

theorem space_named : Tryd.prog.globalNamed "bytes.asciiSpace" = some 1 := Tryd.laysbs188.gNamed

theorem Env.below {w w' : World} (h : Env w) (hB : Below w.heap.size w w') : Env w' where
  trunc := by obtain ⟨t, p, e⟩ := h.trunc; exact ⟨t, p, cell_below hB e⟩
  tab := TabIs_below space_named h.tab hB
  utf := Utf8Tabs_below h.utf hB
  white := WhiteTab_below h.white hB
  esyn := by obtain ⟨t, p, e⟩ := h.esyn; exact ⟨t, p, cell_below hB e⟩
  erng := by obtain ⟨t, p, e⟩ := h.erng; exact ⟨t, p, cell_below hB e⟩

/-- nil, or a piece of the n cells from o on. -/
def Within (b o n : Nat) (v : Value) : Prop := v = .slice none 0 0 ∨ ∃ o' n' c', v = .slice (some ⟨b, o', none⟩) n' c' ∧ o ≤ o' ∧ o' + n' ≤ o + n ∧ n' ≤ c'

theorem Within.mono {b o n o' n' : Nat} {v : Value} (h : Within b o' n' v) (h1 : o ≤ o') (h2 : o' + n' ≤ o + n) : Within b o n v := by
  rcases h with h | ⟨a, m, c, h, x1, x2, x3⟩
  · exact .inl h
  · exact .inr ⟨a, m, c, h, by omega, by omega, x3⟩

theorem rightEnd_le (p : Nat → Bool) (s : ByteArray) : Lib.rightEndF p s ≤ s.size := by
  have hrg := lastIdx_lt p false s s.size s.size (Nat.le_refl _)
  change Lib.lastIdxFunc p false s = -1 ∨ _ at hrg
  unfold Lib.rightEndF
  split
  · rename_i h
    rcases hrg with h' | ⟨h1, h2⟩
    · omega
    · have hlt : Lib.lastIdxFunc p false s < s.size := h2
      have hw1 := Lib.decodeGo_le_size (s.extract (Lib.lastIdxFunc p false s).toNat s.size)
      change (Lib.decodeGoB (s.extract (Lib.lastIdxFunc p false s).toNat s.size)).2 ≤ _ at hw1
      rw [Lib.tail_size] at hw1
      omega
  · omega

theorem trimCut_within (p : Nat → Bool) (s : ByteArray) (b o c : Nat) (hc : s.size ≤ c) : Within b o s.size (trimCut p s b o c) := by
  unfold trimCut
  have hrg := Lib.idxFuncFrom_range p false s s.size 0
  change Lib.idxFunc p false s = -1 ∨ (_ ≤ Lib.idxFunc p false s ∧ Lib.idxFunc p false s < s.size) at hrg
  split
  · exact .inl rfl
  · rename_i h
    right
    unfold rightCut
    have h1 := rightEnd_le p (s.extract (Lib.idxFunc p false s).toNat s.size)
    rw [Lib.tail_size] at h1
    refine ⟨_, _, _, rfl, by omega, ?_, ?_⟩ <;> omega

theorem isSpace_pays (w : World) (hW : Lib.WhiteTab 2 w) : PredGrows Tryd.prog 28 #[] (fun x => Lib.isSpaceZ (x : Int)) w :=
  fun W x hx hb => (Tryd.unicode_IsSpace_any_d (x : Int) W (by omega) (by omega) (WhiteTab_below hW hb)).mono fun _ _ ⟨he, q, hq⟩ => ⟨he, hq ▸ below_drewNg W q⟩

theorem enters28 : ∀ args w, (callFunc 28 args).run Tryd.prog w = .ok (.enter 28 args) w := enters_of Tryd.func28 (by kernel_rfl) rfl

theorem bytes_get (l : List UInt8) (j : Nat) (h : j < l.length) : (ByteArray.mk l.toArray).get! j = l[j] := by
  show l.toArray[j]! = _
  simp [h]

/-- bytes.TrimFunc (27) at unicode.IsSpace. -/
theorem trimFunc (l : List UInt8) (b o c : Nat) (w : World) (hl : l.length ≤ 1048576) (hc : l.length ≤ c) (hB : Bs w b o l) (E : Env w) :
    Calls Tryd.prog 27 #[.slice (some ⟨b, o, none⟩) l.length c, .func (.func 28) #[] #[]] w fun e w' => (∃ v, e = .returned v ∧ Within b o l.length v) ∧ Below w.heap.size w w' := by
  have hsz : (ByteArray.mk l.toArray).size = l.length := by show l.toArray.size = _; simp
  have h := Any7.bytes_TrimFunc Tryd.lays7_42 28 #[] enters28 (fun x => Lib.isSpaceZ (x : Int)) ⟨l.toArray⟩ b o c w (by omega) (by omega)
    (fun j hj => by rw [hsz] at hj; rw [bytes_get l j hj]; exact hB j hj) E.utf (isSpace_pays w E.white)
  rw [hsz] at h
  refine h.mono fun e w' ⟨he, hb⟩ => ⟨⟨_, he, ?_⟩, hb⟩
  have := trimCut_within (fun x => Lib.isSpaceZ (x : Int)) ⟨l.toArray⟩ b o c (by omega)
  rwa [hsz] at this

/-- What bytes.TrimSpace answers. -/
def TrimPost (b o c : Nat) (l : List UInt8) (w : World) (e : Ending) (w' : World) : Prop := (∃ v, e = .returned v ∧ Within b o l.length v ∧ ((∀ x ∈ l, x.toNat < 128) → v = Lib.bytesTrimSpace b o c l)) ∧ Below w.heap.size w w'

theorem nums_at (l : List UInt8) (i : Nat) (h : i < l.length) : (l.map fun x => (x.toNat : Int)).getD i 0 = (l[i].toNat : Int) := by simp [List.getD, h]
theorem bytesOf_nums (l : List UInt8) : Lib.bytesOf (l.map fun x => (x.toNat : Int)) = l := by
  unfold Lib.bytesOf
  rw [List.map_map]
  conv => rhs; rw [← List.map_id l]
  apply List.map_congr_left
  intro x _
  simp

theorem ascii_within (b o c : Nat) (l : List UInt8) (hc : l.length ≤ c) : Within b o l.length (Lib.bytesTrimSpace b o c l) := by
  unfold Lib.bytesTrimSpace
  split
  · exact .inl rfl
  · right
    have h1 : (l.dropWhile Lib.isSp).length ≤ l.length := (List.dropWhile_sublist _).length_le
    have h2 : (Lib.trimSpace l).length ≤ (l.dropWhile Lib.isSp).length := by
      unfold Lib.trimSpace
      rw [List.length_reverse]
      have := (List.dropWhile_sublist (l := (l.dropWhile Lib.isSp).reverse) Lib.isSp).length_le
      rwa [List.length_reverse] at this
    refine ⟨_, _, _, rfl, by omega, ?_, ?_⟩ <;> unfold Lib.spLo <;> omega

set_option maxHeartbeats 800000 in
set_option maxRecDepth 100000 in
/-- bytes.TrimSpace where a byte is beyond ASCII (or not). -/
theorem trimWide (l : List UInt8) (b o c : Nat) (w : World) (hl : l.length ≤ 1048576) (hc : l.length ≤ c) (hB : Hid (Bs w b o l)) (E : Hid (Env w)) :
    Calls Tryd.prog 20 #[.slice (some ⟨b, o, none⟩) l.length c] w fun e w' => (∃ v, e = .returned v ∧ Within b o l.length v) ∧ Below w.heap.size w w' := by
  have hT : ∀ q : Nat, q < 256 → w.cell? ⟨1, q, none⟩ = some (.int .u8 (if Lib.isSp (UInt8.ofNat q) then 1 else 0)) := by
    intro q hq
    rw [E.out.tab.cell space_named q (by rw [Lib.asciiSpaceTab_length]; exact hq), Lib.asciiSpaceTab_at q hq]
  have HT : Hid (∀ q : Nat, q < 256 → w.cell? ⟨1, q, none⟩ = some (.int .u8 (if Lib.isSp (UInt8.ofNat q) then 1 else 0))) := hT
  clear hT
  obtain ⟨n, hn⟩ : ∃ n, n = l.length := ⟨_, rfl⟩
  have Hn : Hid (n = l.length) := hn
  rw [← hn] at hl hc ⊢
  clear hn
  go_enter Tryd.func20, Tryd.ntmps20
  go_wp2
  go_loop [9, 0] (fun i s0 => s0 = .slice (some ⟨b, o, none⟩) n c ∧ ∃ k : Nat, k ≤ n ∧ i = .int .i64 k) (fun i _ => n - (intOf i).toNat)
  case atStart => exact ⟨rfl, 0, Nat.zero_le _, rfl⟩
  case round =>
    obtain ⟨rfl, k, hk, rfl⟩ := hrel
    by_cases hkn : k < n
    · obtain ⟨X, hX⟩ : ∃ X, X = l[k]'(by rw [← Hn.out]; exact hkn) := ⟨_, rfl⟩
      have hc1 : w.cell? ⟨b, o + k, none⟩ = some (.int .u8 (X.toNat : Int)) := by rw [hX]; exact hB.out k (by rw [← Hn.out]; exact hkn)
      have hX2 := X.toNat_lt
      have hT0 : (k : Int) < (n : Int) := by omega
      have hkn2 : (k : Int) ≤ (n : Int) := by omega
      have hck : ¬ c = k := by omega
      clear hX
      by_cases h128 : (128 : Int) ≤ (X.toNat : Int)
      · have cT : Calls Tryd.prog 27 #[.slice (some ⟨b, o + k, none⟩) (n - k) (c - k), .func (.func 28) #[] #[]] w fun e w' => (∃ v, e = .returned v ∧ Within b o n v) ∧ Below w.heap.size w w' := by
          have := trimFunc (l.drop k) b (o + k) (c - k) w (by rw [List.length_drop, ← Hn.out]; omega) (by rw [List.length_drop, ← Hn.out]; omega) (hB.out.drop k) E.out
          rw [List.length_drop, ← Hn.out] at this
          exact this.mono fun e w' ⟨⟨v, he, hv⟩, hb⟩ => ⟨⟨v, he, hv.mono (by omega) (by omega)⟩, hb⟩
        go_wp2_with (go_at_call 27; go_fit cT; rintro e W ⟨⟨v, rfl, hv⟩, hb⟩)
        go_ret
        exact ⟨⟨_, rfl, hv⟩, hb⟩
      · have hTx : w.cell? ⟨1, X.toNat, none⟩ = some (.int .u8 (if Lib.isSp (UInt8.ofNat X.toNat) then 1 else 0)) := HT.out X.toNat (by omega)
        cases hsx : Lib.isSp (UInt8.ofNat X.toNat) with
        | true =>
          rw [hsx] at hTx
          simp only [if_true] at hTx
          go_wp2
          go_round
          case rel => exact ⟨rfl, k + 1, by omega, by go_num⟩
          case measure => simp [intOf]; omega
        | false =>
          rw [hsx] at hTx
          simp only [Bool.false_eq_true, if_false] at hTx
          go_wp2
          go_loop [5] (fun h => ∃ m : Nat, m < n - k ∧ h = .int .i64 m) (fun h => (intOf h).toNat)
          case atStart => exact ⟨n - k - 1, by omega, by first | go_num | (congr 1; omega)⟩
          case round =>
            obtain ⟨m, hm, rfl⟩ := hrel
            obtain ⟨Y, hY⟩ : ∃ Y, Y = l[k + m]'(by rw [← Hn.out]; omega) := ⟨_, rfl⟩
            have hc2 : w.cell? ⟨b, o + k + m, none⟩ = some (.int .u8 (Y.toNat : Int)) := by rw [hY, Nat.add_assoc]; exact hB.out (k + m) (by rw [← Hn.out]; omega)
            have hY2 := Y.toNat_lt
            have hmb : (m : Int) < ((n - k : Nat) : Int) := by omega
            have hmc : (m : Int) + 1 ≤ ((c - k : Nat) : Int) := by omega
            have hYX : Hid (m = 0 → Y = X) := by
              show m = 0 → Y = X
              intro e
              subst e
              have h1 := hc2
              rw [Nat.add_zero, hc1] at h1
              injection h1 with h1
              injection h1 with _ h1
              exact (UInt8.toNat_inj.1 (by omega))
            clear hY
            by_cases hy128 : (128 : Int) ≤ (Y.toNat : Int)
            · have cT : Calls Tryd.prog 27 #[.slice (some ⟨b, o + k, none⟩) (m + 1) (c - k), .func (.func 28) #[] #[]] w fun e w' => (∃ v, e = .returned v ∧ Within b o n v) ∧ Below w.heap.size w w' := by
                have hlen : ((l.drop k).take (m + 1)).length = m + 1 := by rw [List.length_take, List.length_drop, ← Hn.out]; omega
                have := trimFunc ((l.drop k).take (m + 1)) b (o + k) (c - k) w (by omega) (by omega) ((hB.out.drop k).take (m + 1)) E.out
                rw [hlen] at this
                exact this.mono fun e w' ⟨⟨v, he, hv⟩, hb⟩ => ⟨⟨v, he, hv.mono (by omega) (by omega)⟩, hb⟩
              go_wp2_with (go_at_call 27; go_fit cT; rintro e W ⟨⟨v, rfl, hv⟩, hb⟩)
              go_ret
              exact ⟨⟨_, rfl, hv⟩, hb⟩
            · have hTy : w.cell? ⟨1, Y.toNat, none⟩ = some (.int .u8 (if Lib.isSp (UInt8.ofNat Y.toNat) then 1 else 0)) := HT.out Y.toNat (by omega)
              cases hsy : Lib.isSp (UInt8.ofNat Y.toNat) with
              | true =>
                rw [hsy] at hTy
                simp only [if_true] at hTy
                have hm0 : 0 < m := by
                  rcases Nat.eq_zero_or_pos m with e | e
                  · rw [hYX.out e, hsx] at hsy
                    cases hsy
                  · exact e
                go_wp2
                go_round
                case rel => exact ⟨m - 1, by omega, by first | go_num | (congr 1; omega)⟩
                case measure => simp [intOf]; omega
              | false =>
                rw [hsy] at hTy
                simp only [Bool.false_eq_true, if_false] at hTy
                go_wp2
                go_ret
                exact ⟨⟨_, rfl, .inr ⟨o + k, m + 1, c - k, rfl, by omega, by omega, by omega⟩⟩, Below.refl _ _⟩
    · have hke : k = n := by omega
      subst hke
      have hT0 : ¬ ((k : Int) < (k : Int)) := by omega
      go_wp2
      go_ret
      exact ⟨⟨_, rfl, .inl rfl⟩, Below.refl _ _⟩

theorem trimSpace (l : List UInt8) (b o c : Nat) (w : World) (hl : l.length ≤ 1048576) (hc : l.length ≤ c) (hB : Bs w b o l) (E : Env w) :
    Calls Tryd.prog 20 #[.slice (some ⟨b, o, none⟩) l.length c] w (TrimPost b o c l w) := by
  by_cases ha : ∀ x ∈ l, x.toNat < 128
  · have h := Tryd.bytes_TrimSpace b o l.length c (l.map fun x => (x.toNat : Int)) w (by simp) hc (by omega) (fun i hi => by rw [nums_at l i hi]; exact hB i hi)
      (fun i hi => by rw [nums_at l i hi]; have := ha l[i] (List.getElem_mem _); omega) E.tab
    rw [bytesOf_nums] at h
    exact h.mono fun e w' ⟨he, hw⟩ => ⟨⟨_, he, ascii_within b o c l hc, fun _ => rfl⟩, hw ▸ Below.refl _ _⟩
  · exact (trimWide l b o c w hl hc hB E).mono fun e w' ⟨⟨v, he, hv⟩, hb⟩ => ⟨⟨v, he, hv, fun h => absurd h ha⟩, hb⟩

/-! ### strconv.Atoi -/
/-- What strconv.Atoi answers: the number; or some number, and an error. -/
def AtoiPost (s : List UInt8) (w : World) (e : Ending) (w' : World) : Prop :=
  (∃ v er, e = .returned (.tuple #[.int .i64 v, er]) ∧ ((Lib.atoiAll s = .ok v ∧ er = .nilIface) ∨ ((∀ v, Lib.atoiAll s ≠ .ok v) ∧ ∃ t p, er = .iface t p))) ∧ Below w.heap.size w w'

theorem atoi (s : ByteArray) (hs : s.size ≤ 1048576) (w : World) (E : Env w) : Calls Tryd.prog 19 #[.string s] w (AtoiPost s.data.toList w) := by
  obtain ⟨t1, p1, e1⟩ := E.esyn
  obtain ⟨t2, p2, e2⟩ := E.erng
  rcases h : Lib.atoiAll s.data.toList with v | _ | _
  · exact (Any.strconv_Atoi_ok Tryd.laysC172 s (by omega) v h w).mono fun e w' ⟨he, hw⟩ => ⟨⟨v, _, he, .inl ⟨h, rfl⟩⟩, by
      rcases hw with rfl | ⟨t, rfl⟩
      · exact Below.refl _ _
      · exact Lib.bytesWorld_below _ _ _⟩
  · exact (Any.strconv_Atoi_syntax Tryd.laysC172 s (by omega) h _ w e1 (.inr ⟨_, _, rfl⟩)).mono fun e w' ⟨N, he, _, _, hb⟩ => ⟨⟨_, _, he, .inr ⟨fun v => by rw [h]; simp, _, _, rfl⟩⟩, hb⟩
  · exact (Any.strconv_Atoi_range Tryd.laysC172 s (by omega) h _ w e2 (.inr ⟨_, _, rfl⟩)).mono fun e w' ⟨N, he, _, _, hb⟩ => ⟨⟨_, _, he, .inr ⟨fun v => by rw [h]; simp, _, _, rfl⟩⟩, hb⟩
end Go.Proofs.Qxb6003829aDoor
