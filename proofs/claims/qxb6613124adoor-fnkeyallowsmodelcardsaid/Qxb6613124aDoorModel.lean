/-
  THE WALKS of zzHolds (60) and zzAnyIn (46).
-/
import Derived.Test.Qxb6613124aDoorCovers
import Derived.Deep.QuietTactic
import Derived.BigQuiet
namespace Go.Proofs.Qxb6613124aDoor
open Go.RowKit

/-- As the model matches. -/
def modM (ic : Bool) (v h : ByteArray) : Bool := (v.toList == h.toList) || (ic && foldHex v.data.toList h.data.toList)
theorem modM_eq (ic : Bool) (v h : ByteArray) (hx : Hexed h) : modM ic v h = matchesB ic v h := by
  unfold modM matchesB
  cases ic with
  | false => simp
  | true =>
    rw [if_pos rfl, Bool.true_and]
    by_cases e : v.toList = h.toList
    · have hf : foldHex v.data.toList h.data.toList = true := by
        unfold foldHex
        rw [Lib.toList_data, Lib.toList_data] at e
        rw [e, beq_iff_eq]
        apply List.map_congr_left
        intro c hc
        obtain ⟨j, hj, rfl⟩ := List.getElem_of_mem hc
        exact hexC_low (hx j (by simpa using hj))
      rw [hf]
      simp
    · rw [beq_eq_false_iff_ne.2 e, Bool.false_or]

set_option maxHeartbeats 800000 in
set_option maxRecDepth 100000 in
theorem zzHolds_any (c : KC) (p : Option Addr) (cp : Nat) (mv : Value) (f : Int → Option (List UInt8)) (w : World) (hS : Hid (StrsAt w p c.vals)) (hM : Hid (MapAll w mv f)) (hc : Hid (CondOk w f c)) :
    Calls Tryd.prog 60 #[.bool c.neg, .bool c.ic, .int .i64 c.pcr, .slice p c.vals.length cp, mv] w fun x w' => x = .returned (.bool (holdsB f c)) ∧ Below w.heap.size w w' := by
  obtain ⟨neg, ic, pcr, vals⟩ := c
  have hvl := hc.out.vals
  have hML := hM.out w (Below.refl _ _) pcr hc.out.key
  dsimp only at hvl
  cases hf : f pcr with
  | none =>
    have HE := hid (show holdsB f ⟨neg, ic, pcr, vals⟩ = (false != neg) by unfold holdsB; dsimp only; rw [hf])
    rw [hf] at hML
    obtain ⟨h1, _⟩ := hML
    clear hf
    go_enter Tryd.func60, Tryd.ntmps60
    go_wp2
    go_ret
    exact ⟨ret_bool (by rw [HE.out]; simp), Below.refl _ _⟩
  | some l =>
    have HE := hid (show holdsB f ⟨neg, ic, pcr, vals⟩ = ((vals.any fun v => matchesB ic v (hexS l)) != neg) by unfold holdsB; dsimp only; rw [hf])
    have hll := hc.out.look l hf
    rw [hf] at hML
    obtain ⟨pb, cb, h1, _, hb⟩ := hML
    have HBy := hid hb
    clear hf hb
    have hsz := hexS_size l
    have hhx := hid (hexS_hexed l)
    have hHex := hid (zzHex l pb cb w hll HBy)
    generalize hexS l = h at *
    go_enter Tryd.func60, Tryd.ntmps60
    go_wp2_with (go_at_call 70; refine hHex.out.mono ?_; rintro e w1 ⟨rfl, hb1⟩)
    go_loopw [13, 15] (fun s13 sj wr => ∃ (k : Nat) (b : Bool), k ≤ vals.length ∧ sj = .int .i64 k ∧ s13 = .bool b ∧ Hid ((vals.take k).any (fun v => matchesB ic v h) = b) ∧ Below w.heap.size w wr) (fun _ j _ => vals.length - (intOf j).toNat)
    case atStart => exact ⟨0, false, Nat.zero_le _, rfl, rfl, hid (by simp), hb1⟩
    case round =>
      obtain ⟨k, b, hk, rfl, rfl, hany, hB⟩ := hrel
      cases b with
      | true =>
        have HT : Hid ((vals.any fun v => matchesB ic v h) = true) := by
          refine hid ?_
          obtain ⟨x, hx, hm⟩ := List.any_eq_true.1 hany.out
          exact List.any_eq_true.2 ⟨x, List.mem_of_mem_take hx, hm⟩
        by_cases hlt : (k : Int) < (vals.length : Int)
        · go_wp2
          go_ret
          exact ⟨ret_bool (by rw [HE.out, HT.out]; cases neg <;> rfl), hB⟩
        · go_wp2
          go_ret
          exact ⟨ret_bool (by rw [HE.out, HT.out]; cases neg <;> rfl), hB⟩
      | false =>
        by_cases hlt : k < vals.length
        · obtain ⟨bb, o, rfl, hcell⟩ := (hS.out.below hB) (by omega)
          have hck := hcell k hlt
          have hxs := hc.out.size vals[k] (List.getElem_mem hlt)
          have hst : Hid (∀ b', modM ic vals[k] h = b' → (vals.take (k + 1)).any (fun v => matchesB ic v h) = b') := by
            refine hid (fun b' hb' => ?_)
            rw [List.take_succ_eq_append_getElem hlt, List.any_append, hany.out, ← hb', modM_eq ic _ h hhx.out]
            simp
          generalize vals[k] = x at *
          clear hcell
          have hfe := hid (foldEq x h wr (by omega) hhx)
          by_cases he : (x.toList == h.toList) = true
          · have HM1 := hid (show modM ic x h = true by unfold modM; rw [he]; simp)
            go_wp2
            exact ⟨⟨k + 1, true, by omega, by go_num, rfl, hid (hst.out _ HM1.out), hB⟩, by simp [intOf]; omega⟩
          · have he' : (x.toList == h.toList) = false := by simpa using he
            clear he
            cases ic with
            | false =>
              have HM1 := hid (show modM false x h = false by unfold modM; rw [he']; simp)
              go_wp2
              exact ⟨⟨k + 1, false, by omega, by go_num, rfl, hid (hst.out _ HM1.out), hB⟩, by simp [intOf]; omega⟩
            | true =>
              have HM1 := hid (show modM true x h = foldHex x.data.toList h.data.toList by unfold modM; rw [he']; simp)
              go_wp2_with (go_at_call 71; refine hfe.out.mono ?_; rintro e w2 ⟨rfl, hb2⟩)
              exact ⟨⟨k + 1, foldHex x.data.toList h.data.toList, by omega, by go_num, rfl, hid (hst.out _ HM1.out), hB.trans (hb2.mono hB.size)⟩, by simp [intOf]; omega⟩
        · have hks : k = vals.length := by omega
          subst hks
          have HT := hid (show (vals.any fun v => matchesB ic v h) = false by have := hany.out; rwa [List.take_of_length_le (Nat.le_refl _)] at this)
          go_wp2
          go_ret
          exact ⟨ret_bool (by rw [HE.out, HT.out]; simp), hB⟩

set_option maxHeartbeats 800000 in
set_option maxRecDepth 100000 in
theorem zzAnyIn_any (named who : List ByteArray) (p q : Option Addr) (cp cq : Nat) (w : World) (hn : named.length ≤ 1048576) (hw : who.length ≤ 1048576) (hS : Hid (StrsAt w p named)) (hW : Hid (StrsAt w q who)) :
    Calls Tryd.prog 46 #[.slice p named.length cp, .slice q who.length cq] w fun e w' => e = .returned (.bool (named.any (oneOf who))) ∧ Below w.heap.size w w' := by
  go_enter Tryd.func46, Tryd.ntmps46
  go_wp2
  go_loopw [5] (fun si wr => ∃ i : Nat, i ≤ named.length ∧ si = .int .i64 i ∧ Hid (∀ (q : Nat) (hq : q < named.length), q < i → oneOf who named[q] = false) ∧ Below w.heap.size w wr) (fun j _ => named.length - (intOf j).toNat)
  case atStart => exact ⟨0, Nat.zero_le _, rfl, hid (by intro q _ h; omega), Below.refl _ _⟩
  case round =>
    obtain ⟨i, hi, rfl, hno, hB⟩ := hrel
    by_cases hlt : i < named.length
    · obtain ⟨bn, on, rfl, hcn⟩ := hS.out (by omega)
      have hcn0 := hcn i hlt
      obtain ⟨x, hx⟩ : ∃ x, named[i] = x := ⟨_, rfl⟩
      rw [hx] at hcn0
      have HX := hid hx
      clear hx hcn
      go_wp2
      go_loopw [6] (fun sj wq => ∃ j : Nat, j ≤ who.length ∧ sj = .int .i64 j ∧ Hid (∀ (q : Nat) (hq : q < who.length), q < j → (x.toList == who[q].toList) = false) ∧ Below w.heap.size w wq) (fun j _ => who.length - (intOf j).toNat)
      case atStart => exact ⟨0, Nat.zero_le _, rfl, hid (by intro q _ h; omega), hB⟩
      case round =>
        obtain ⟨j, hj, rfl, hno2, hB2⟩ := hrel
        by_cases hlt2 : j < who.length
        · obtain ⟨bw, ow, rfl, hcw⟩ := hW.out (by omega)
          have hcw0 := hcw j hlt2
          have c1 := (hB2.cell (p := ⟨bn, on + i, none⟩) (block_lt_of_cell hcn0)).trans hcn0
          have c2 := (hB2.cell (p := ⟨bw, ow + j, none⟩) (block_lt_of_cell hcw0)).trans hcw0
          obtain ⟨y, hy⟩ : ∃ y, who[j] = y := ⟨_, rfl⟩
          rw [hy] at c2
          have HY := hid hy
          clear hy hcw hcw0
          have hii : (i : Int) < (named.length : Int) := by omega
          have hjj : (j : Int) < (who.length : Int) := by omega
          obtain ⟨b, hb⟩ : ∃ b, (x.toList == y.toList) = b := ⟨_, rfl⟩
          have HB := hid hb
          have hdr : Hid (∀ n, Below w.heap.size w (wr.drewN n)) := hid (fun n => hB2.trans ⟨rfl, rfl, rfl, Nat.le_refl _, fun _ _ => rfl⟩)
          go_wp2
          go_quiet (fail)
          cases b
          · go_wp2
            refine ⟨⟨j + 1, by omega, by go_num, hid ?_, hdr.out _⟩, by simp [intOf]; omega⟩
            intro q hq hqj
            by_cases e : q = j
            · subst e; rw [HY.out]; exact HB.out
            · exact hno2.out q hq (by omega)
          · go_wp2
            go_ret
            refine ⟨ret_bool ?_, hdr.out _⟩
            rw [eq_comm]
            exact any_at named (oneOf who) i hlt (by rw [HX.out]; exact any_at who (fun y => x.toList == y.toList) j hlt2 (by rw [HY.out]; exact HB.out))
        · obtain rfl : j = who.length := by omega
          go_wp2
          refine ⟨⟨i + 1, by omega, by go_num, hid ?_, hB2⟩, by simp [intOf]; omega⟩
          intro q hq hqi
          by_cases e : q = i
          · subst e; rw [HX.out]; exact any_none who _ (fun q hq => hno2.out q hq hq)
          · exact hno.out q hq (by omega)
    · obtain rfl : i = named.length := by omega
      go_wp2
      go_ret
      exact ⟨ret_bool (any_none named _ (fun q hq => hno.out q hq hq)).symm, hB⟩
end Go.Proofs.Qxb6613124aDoor
