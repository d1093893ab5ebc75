/-
  THE WALKS of covers$1 (30) and covers (22).
-/
import Derived.Test.Qxb6613124aDoorClos
import Derived.Lib.LazyBuf
namespace Go.Proofs.Qxb6613124aDoor
open Go.RowKit

/-- The statement's resources' test. -/
noncomputable def matB (r : Rq) (deny ex : Bool) (x : ByteArray) : Bool := if ex then exactB r.resource r.len r.digits deny x else resB r.resource r.len r.digits deny x
/-- The statement covers the request. -/
noncomputable def coverB (f : Int → Option (List UInt8)) (r : Rq) (deny ex : Bool) (who : List ByteArray) (sv : SV) : Bool :=
  (sv.deny == deny) && (sv.pp.isNone || sv.prins.any (oneOf who)) && sv.acts.any (actB r.action) && sv.res.any (matB r deny ex) && !(sv.conds.any fun v => !holdsB f v.c)

/-- A statement's parts can be read. -/
structure StmtOk (w : World) (f : Int → Option (List UInt8)) (sv : SV) : Prop where
  acts : StrsAt w sv.pa sv.acts
  res : StrsAt w sv.pr sv.res
  prins : StrsAt w sv.pp sv.prins
  nil : sv.pp = none → sv.prins = []
  conds : CondsAt w sv.pc sv.conds
  vals : ∀ v ∈ sv.conds, StrsAt w v.p v.c.vals
  ok : ∀ v ∈ sv.conds, CondOk w f v.c
  la : sv.acts.length ≤ 1048576
  lr : sv.res.length ≤ 1048576
  lp : sv.prins.length ≤ 1048576
  lc : sv.conds.length ≤ 1048576
  za : ∀ a ∈ sv.acts, a.size ≤ 1048576
  zr : ∀ a ∈ sv.res, a.size ≤ 1048576
theorem StmtOk.below {w w' : World} {f : Int → Option (List UInt8)} {sv : SV} (h : StmtOk w f sv) (hb : Below w.heap.size w w') : StmtOk w' f sv where
  acts := h.acts.below hb
  res := h.res.below hb
  prins := h.prins.below hb
  nil := h.nil
  conds := h.conds.below hb
  vals := fun v hv => (h.vals v hv).below hb
  ok := fun v hv => ⟨(h.ok v hv).vals, (h.ok v hv).size, (h.ok v hv).key, (h.ok v hv).look⟩
  la := h.la
  lr := h.lr
  lp := h.lp
  lc := h.lc
  za := h.za
  zr := h.zr

/-- The tables, the map and the request's sizes. -/
structure EnvOk (w : World) (r : Rq) (f : Int → Option (List UInt8)) : Prop where
  cases : Cases w
  fold : FoldTab w
  map : MapAll w r.mv f
  za : r.action.size ≤ 1048576
  zr : r.resource.size ≤ 1048576
  zl : r.len ≤ 1048576
theorem EnvOk.below {w w' : World} {r : Rq} {f : Int → Option (List UInt8)} (h : EnvOk w r f) (hb : Below w.heap.size w w') : EnvOk w' r f where
  cases := h.cases.below hb
  fold := h.fold.below hb
  map := fun W hW => h.map W (hb.trans (hW.mono hb.size))
  za := h.za
  zr := h.zr
  zl := h.zl

/-- What covers$1 has caught. -/
structure Caught (w : World) (r : Rq) (deny ex : Bool) (who : List ByteArray) (Bd Bw Br Bm Bt : Nat) (pw : Option Addr) (cw : Nat) : Prop where
  hd : w.cell? ⟨Bd, 0, none⟩ = some (.bool deny)
  hw : w.cell? ⟨Bw, 0, none⟩ = some (.slice pw who.length cw)
  hws : StrsAt w pw who
  hr : RqAt w Br r
  hm : w.cell? ⟨Bm, 0, none⟩ = some (.func (.func (if ex then 24 else 23)) #[] #[])
  ht : TgtAt w Bt r.resource r.len r.digits (!deny)
  hl : who.length ≤ 1048576
theorem Caught.below {w w' : World} {r : Rq} {deny ex : Bool} {who : List ByteArray} {Bd Bw Br Bm Bt : Nat} {pw : Option Addr} {cw : Nat} (h : Caught w r deny ex who Bd Bw Br Bm Bt pw cw) (hb : Below w.heap.size w w') : Caught w' r deny ex who Bd Bw Br Bm Bt pw cw := by
  have k : ∀ {a : Addr} {v : Value}, w.cell? a = some v → w'.cell? a = some v := fun {a v} hx => (hb.cell (block_lt_of_cell hx)).trans hx
  exact ⟨k h.hd, k h.hw, h.hws.below hb, h.hr.below hb, k h.hm, ⟨k h.ht.1, k h.ht.2.1, k h.ht.2.2.1, k h.ht.2.2.2⟩, h.hl⟩

theorem ans1 {w : World} {r : Rq} {deny ex : Bool} {who : List ByteArray} {Bd Bw Br Bm Bt : Nat} {pw : Option Addr} {cw : Nat} (h : Caught w r deny ex who Bd Bw Br Bm Bt pw cw) (ss : List ByteArray) : Answers w 32 #[.pointer (some ⟨Bw, 0, none⟩)] ss (oneOf who) := fun x _ W hb =>
  clos1 x who Bw pw cw W h.hl (h.below hb).hw (h.below hb).hws
theorem ans2 {w : World} {r : Rq} {f : Int → Option (List UInt8)} {deny ex : Bool} {who : List ByteArray} {Bd Bw Br Bm Bt : Nat} {pw : Option Addr} {cw : Nat} (h : Caught w r deny ex who Bd Bw Br Bm Bt pw cw) (he : EnvOk w r f) (ss : List ByteArray) (hz : ∀ a ∈ ss, a.size ≤ 1048576) : Answers w 34 #[.pointer (some ⟨Br, 0, none⟩)] ss (actB r.action) := fun x hx W hb =>
  clos2 x r.action Br W (hz x hx) he.za (he.below hb).cases (h.below hb).hr.2.2.1
theorem ans3 {w : World} {r : Rq} {f : Int → Option (List UInt8)} {deny ex : Bool} {who : List ByteArray} {Bd Bw Br Bm Bt : Nat} {pw : Option Addr} {cw : Nat} (h : Caught w r deny ex who Bd Bw Br Bm Bt pw cw) (he : EnvOk w r f) (ss : List ByteArray) (hz : ∀ a ∈ ss, a.size ≤ 1048576) : Answers w 36 #[.pointer (some ⟨Bm, 0, none⟩), .pointer (some ⟨Bt, 0, none⟩)] ss (matB r deny ex) := fun x hx W hb => by
  have hm := (h.below hb).hm
  cases ex with
  | true =>
    have := clos3e x r.resource r.len r.digits (!deny) Bm Bt W (hz x hx) he.zr he.zl hm (h.below hb).ht
    rw [Bool.not_not] at this
    exact this
  | false =>
    have := clos3w x r.resource r.len r.digits (!deny) Bm Bt W (hz x hx) he.zr he.zl hm (h.below hb).ht
    rw [Bool.not_not] at this
    exact this
theorem ans4 {w : World} {r : Rq} {f : Int → Option (List UInt8)} {deny ex : Bool} {who : List ByteArray} {Bd Bw Br Bm Bt : Nat} {pw : Option Addr} {cw : Nat} (h : Caught w r deny ex who Bd Bw Br Bm Bt pw cw) (he : EnvOk w r f) (sv : SV) (hs : StmtOk w f sv) : AnswersC w 38 #[.pointer (some ⟨Br, 0, none⟩)] sv.conds (fun v => !holdsB f v.c) := fun v hv W hb =>
  clos4 v r f Br W (h.below hb).hr ((hs.below hb).vals v hv) (he.below hb).fold (he.below hb).map ((hs.below hb).ok v hv)

/-- The statement's box, and what lay before. -/
def At30 (w : World) (sv : SV) (W : World) : Prop := W.rowIs w.heap.size 36 5 (fun j => (#[.bool sv.deny, .slice sv.pa sv.acts.length sv.ca, .slice sv.pr sv.res.length sv.cr, .slice sv.pp sv.prins.length sv.cpp, .slice sv.pc sv.conds.length sv.cc] : Array Value).getD j undef) ∧ Below w.heap.size w W
theorem At30.below {w : World} {sv : SV} {W W' : World} (h : At30 w sv W) (hb : Below W.heap.size W W') : At30 w sv W' := ⟨h.1.of_block (hb.block _ h.1.lt), h.2.trans (hb.mono h.2.size)⟩
theorem At30.start (w : World) (sv : SV) : At30 w sv (w.alloc (.cells #[.bool sv.deny, .slice sv.pa sv.acts.length sv.ca, .slice sv.pr sv.res.length sv.cr, .slice sv.pp sv.prins.length sv.cpp, .slice sv.pc sv.conds.length sv.cc] 36)) :=
  ⟨rowL w _ 36, (Below.refl _ _).alloc (Nat.le_refl _) _⟩
theorem At30.cells {w : World} {sv : SV} {W : World} (h : At30 w sv W) : W.cell? ⟨w.heap.size, 0, none⟩ = some (.bool sv.deny) ∧ W.cell? ⟨w.heap.size, 1, none⟩ = some (.slice sv.pa sv.acts.length sv.ca) ∧ W.cell? ⟨w.heap.size, 2, none⟩ = some (.slice sv.pr sv.res.length sv.cr) ∧ W.cell? ⟨w.heap.size, 3, none⟩ = some (.slice sv.pp sv.prins.length sv.cpp) ∧ W.cell? ⟨w.heap.size, 4, none⟩ = some (.slice sv.pc sv.conds.length sv.cc) :=
  ⟨h.1.cell (i := 0) (by omega), h.1.cell (i := 1) (by omega), h.1.cell (i := 2) (by omega), h.1.cell (i := 3) (by omega), h.1.cell (i := 4) (by omega)⟩

section
variable {f : Int → Option (List UInt8)} {r : Rq} {deny ex : Bool} {who : List ByteArray} {sv : SV}
theorem cover_no1 (h : (sv.deny == deny) = false) : coverB f r deny ex who sv = false := by unfold coverB; rw [h]; simp
theorem cover_no2 (h1 : sv.pp.isNone = false) (h : sv.prins.any (oneOf who) = false) : coverB f r deny ex who sv = false := by unfold coverB; rw [h1, h]; simp
theorem cover_no3 (h : sv.acts.any (actB r.action) = false) : coverB f r deny ex who sv = false := by unfold coverB; rw [h]; simp
theorem cover_no4 (h : sv.res.any (matB r deny ex) = false) : coverB f r deny ex who sv = false := by unfold coverB; rw [h]; simp
theorem cover_yes {b : Bool} (h1 : (sv.deny == deny) = true) (h2 : (sv.pp.isNone || sv.prins.any (oneOf who)) = true) (h3 : sv.acts.any (actB r.action) = true) (h4 : sv.res.any (matB r deny ex) = true) (h5 : (sv.conds.any fun v => !holdsB f v.c) = b) : coverB f r deny ex who sv = !b := by unfold coverB; rw [h1, h2, h3, h4, h5]; simp
end

set_option maxHeartbeats 1600000 in
set_option maxRecDepth 100000 in
theorem clos30 (sv : SV) (r : Rq) (f : Int → Option (List UInt8)) (deny ex : Bool) (who : List ByteArray) (Bd Bw Br Bm Bt : Nat) (pw : Option Addr) (cw : Nat) (w : World) (hK : Hid (Caught w r deny ex who Bd Bw Br Bm Bt pw cw)) (hE : Hid (EnvOk w r f)) (hS : Hid (StmtOk w f sv)) :
    Calls Tryd.prog 30 #[.agg #[.bool sv.deny, .slice sv.pa sv.acts.length sv.ca, .slice sv.pr sv.res.length sv.cr, .slice sv.pp sv.prins.length sv.cpp, .slice sv.pc sv.conds.length sv.cc], .pointer (some ⟨Bd, 0, none⟩), .pointer (some ⟨Bw, 0, none⟩), .pointer (some ⟨Br, 0, none⟩), .pointer (some ⟨Bm, 0, none⟩), .pointer (some ⟨Bt, 0, none⟩)] w fun e w' => e = .returned (.bool (coverB f r deny ex who sv)) ∧ Below w.heap.size w w' := by
  have eg32 : ∀ args w, (callFunc 32 args).run Tryd.prog w = .ok (.enter 32 args) w := enters_of Tryd.func32 (by kernel_rfl) rfl
  have eg34 : ∀ args w, (callFunc 34 args).run Tryd.prog w = .ok (.enter 34 args) w := enters_of Tryd.func34 (by kernel_rfl) rfl
  have eg36 : ∀ args w, (callFunc 36 args).run Tryd.prog w = .ok (.enter 36 args) w := enters_of Tryd.func36 (by kernel_rfl) rfl
  have eg38 : ∀ args w, (callFunc 38 args).run Tryd.prog w = .ok (.enter 38 args) w := enters_of Tryd.func38 (by kernel_rfl) rfl
  have hnil := fun (a : Option Addr) (l c : Nat) (w : World) => run_eql_slice_nil (P := Tryd.prog) w 33 9 a l c Tryd.underlying33
  have hW1 := hid (At30.start w sv)
  have kd := (hK.out.below hW1.out.2).hd
  cases he : (sv.deny == deny) with
  | false =>
    have HE1 := hid he
    go_enter Tryd.func30, Tryd.ntmps30
    go_wp2
    go_ret
    exact ⟨ret_bool (cover_no1 HE1.out).symm, hW1.out.2⟩
  | true =>
    have HE1 := hid he
    go_enter Tryd.func30, Tryd.ntmps30
    cases hpp : sv.pp with
    | none =>
      have HP := hid (show (sv.pp.isNone || sv.prins.any (oneOf who)) = true by rw [hpp]; rfl)
      rw [hpp] at hW1 kd
      go_wp2_with fail
      refine (contFuncS 34 #[.pointer (some ⟨Br, 0, none⟩)] sv.acts (actB r.action) sv.pa sv.ca _ eg34 hS.out.la (hid (hS.out.acts.below hW1.out.2)) (hid (ans2 (hK.out.below hW1.out.2) (hE.out.below hW1.out.2) sv.acts hS.out.za))).mono ?_
      rintro e W3 ⟨rfl, hbW3⟩
      have hW3 := hid (hW1.out.below hbW3)
      obtain ⟨k0, k1, k2, k3, k4⟩ := hW3.out.cells
      generalize hb3 : sv.acts.any (actB r.action) = b3 at *
      have HB3 := hid hb3
      clear hb3
      cases b3
      · go_wp2
        go_ret
        exact ⟨ret_bool (cover_no3 HB3.out).symm, hW3.out.2⟩
      · go_wp2_with fail
        refine (contFuncS 36 #[.pointer (some ⟨Bm, 0, none⟩), .pointer (some ⟨Bt, 0, none⟩)] sv.res (matB r deny ex) sv.pr sv.cr _ eg36 hS.out.lr (hid (hS.out.res.below hW3.out.2)) (hid (ans3 (hK.out.below hW3.out.2) (hE.out.below hW3.out.2) sv.res hS.out.zr))).mono ?_
        rintro e W4 ⟨rfl, hbW4⟩
        have hW4 := hid (hW3.out.below hbW4)
        obtain ⟨k0, k1, k2, k3, k4⟩ := hW4.out.cells
        generalize hb4 : sv.res.any (matB r deny ex) = b4 at *
        have HB4 := hid hb4
        clear hb4
        cases b4
        · go_wp2
          go_ret
          exact ⟨ret_bool (cover_no4 HB4.out).symm, hW4.out.2⟩
        · go_wp2_with fail
          refine (contFuncC 38 #[.pointer (some ⟨Br, 0, none⟩)] sv.conds (fun v => !holdsB f v.c) sv.pc sv.cc _ eg38 hS.out.lc (hid (hS.out.conds.below hW4.out.2)) (hid (ans4 (hK.out.below hW4.out.2) (hE.out.below hW4.out.2) sv (hS.out.below hW4.out.2)))).mono ?_
          rintro e W5 ⟨rfl, hbW5⟩
          have hW5 := hid (hW4.out.below hbW5)
          obtain ⟨k0, k1, k2, k3, k4⟩ := hW5.out.cells
          generalize hb5 : (sv.conds.any fun v => !holdsB f v.c) = b5 at *
          have HB5 := hid hb5
          clear hb5
          go_wp2
          go_ret
          exact ⟨ret_bool (cover_yes HE1.out HP.out HB3.out HB4.out HB5.out).symm, hW5.out.2⟩
    | some pa0 =>
      have HP0 := hid (show sv.pp.isNone = false by rw [hpp]; rfl)
      have hPS := hid hS.out.prins
      rw [hpp] at hW1 kd hPS
      go_wp2_with fail
      refine (contFuncS 32 #[.pointer (some ⟨Bw, 0, none⟩)] sv.prins (oneOf who) (some pa0) sv.cpp _ eg32 hS.out.lp (hid (hPS.out.below hW1.out.2)) (hid (ans1 (hK.out.below hW1.out.2) sv.prins))).mono ?_
      rintro e W2 ⟨rfl, hbW2⟩
      have hW2 := hid (hW1.out.below hbW2)
      obtain ⟨k0, k1, k2, k3, k4⟩ := hW2.out.cells
      generalize hb2 : sv.prins.any (oneOf who) = b2 at *
      have HB2 := hid hb2
      clear hb2
      cases b2
      · go_wp2
        go_ret
        exact ⟨ret_bool (cover_no2 HP0.out HB2.out).symm, hW2.out.2⟩
      · go_wp2_with fail
        refine (contFuncS 34 #[.pointer (some ⟨Br, 0, none⟩)] sv.acts (actB r.action) sv.pa sv.ca _ eg34 hS.out.la (hid (hS.out.acts.below hW2.out.2)) (hid (ans2 (hK.out.below hW2.out.2) (hE.out.below hW2.out.2) sv.acts hS.out.za))).mono ?_
        rintro e W3 ⟨rfl, hbW3⟩
        have hW3 := hid (hW2.out.below hbW3)
        obtain ⟨k0, k1, k2, k3, k4⟩ := hW3.out.cells
        generalize hb3 : sv.acts.any (actB r.action) = b3 at *
        have HB3 := hid hb3
        clear hb3
        cases b3
        · go_wp2
          go_ret
          exact ⟨ret_bool (cover_no3 HB3.out).symm, hW3.out.2⟩
        · go_wp2_with fail
          refine (contFuncS 36 #[.pointer (some ⟨Bm, 0, none⟩), .pointer (some ⟨Bt, 0, none⟩)] sv.res (matB r deny ex) sv.pr sv.cr _ eg36 hS.out.lr (hid (hS.out.res.below hW3.out.2)) (hid (ans3 (hK.out.below hW3.out.2) (hE.out.below hW3.out.2) sv.res hS.out.zr))).mono ?_
          rintro e W4 ⟨rfl, hbW4⟩
          have hW4 := hid (hW3.out.below hbW4)
          obtain ⟨k0, k1, k2, k3, k4⟩ := hW4.out.cells
          generalize hb4 : sv.res.any (matB r deny ex) = b4 at *
          have HB4 := hid hb4
          clear hb4
          cases b4
          · go_wp2
            go_ret
            exact ⟨ret_bool (cover_no4 HB4.out).symm, hW4.out.2⟩
          · go_wp2_with fail
            refine (contFuncC 38 #[.pointer (some ⟨Br, 0, none⟩)] sv.conds (fun v => !holdsB f v.c) sv.pc sv.cc _ eg38 hS.out.lc (hid (hS.out.conds.below hW4.out.2)) (hid (ans4 (hK.out.below hW4.out.2) (hE.out.below hW4.out.2) sv (hS.out.below hW4.out.2)))).mono ?_
            rintro e W5 ⟨rfl, hbW5⟩
            have hW5 := hid (hW4.out.below hbW5)
            obtain ⟨k0, k1, k2, k3, k4⟩ := hW5.out.cells
            generalize hb5 : (sv.conds.any fun v => !holdsB f v.c) = b5 at *
            have HB5 := hid hb5
            clear hb5
            go_wp2
            go_ret
            exact ⟨ret_bool (cover_yes HE1.out (by rw [HB2.out]; simp) HB3.out HB4.out HB5.out).symm, hW5.out.2⟩

theorem up {W : World} {a : Addr} {v : Value} (h : W.cell? a = some v) (o : Obj) : (W.alloc o).cell? a = some v := (((Below.refl _ W).alloc (Nat.le_refl _) o).cell (block_lt_of_cell h)).trans h

theorem caught_new (w : World) (r : Rq) (deny ex : Bool) (who : List ByteArray) (pw : Option Addr) (cw : Nat) (hws : StrsAt w pw who) (hl : who.length ≤ 1048576) :
    Caught (((((w.alloc (.cells #[.string r.principal, .string r.account, .string r.action, .string r.resource, .int .i64 r.len, .string r.digits, r.mv] 30)).alloc (.cells #[.bool deny] 4)).alloc (.cells #[.func (.func (if ex then 24 else 23)) #[] #[]] 72)).alloc (.cells #[.slice pw who.length cw] 33)).alloc (.cells #[.string r.resource, .int .i64 r.len, .string r.digits, .bool (!deny)] 74))
      r deny ex who (w.heap.size + 1) (w.heap.size + 3) w.heap.size (w.heap.size + 2) (w.heap.size + 4) pw cw where
  hd := by
    have h := new_cell (w.alloc (.cells #[.string r.principal, .string r.account, .string r.action, .string r.resource, .int .i64 r.len, .string r.digits, r.mv] 30)) #[.bool deny] 4 0 (by simp)
    rw [World.size_alloc] at h
    exact up (up (up h _) _) _
  hw := by
    have h := new_cell (((w.alloc (.cells #[.string r.principal, .string r.account, .string r.action, .string r.resource, .int .i64 r.len, .string r.digits, r.mv] 30)).alloc (.cells #[.bool deny] 4)).alloc (.cells #[.func (.func (if ex then 24 else 23)) #[] #[]] 72)) #[.slice pw who.length cw] 33 0 (by simp)
    simp only [World.size_alloc] at h
    exact up h _
  hws := (((((hws.below ((Below.refl _ _).alloc (Nat.le_refl _) _)).below ((Below.refl _ _).alloc (Nat.le_refl _) _)).below ((Below.refl _ _).alloc (Nat.le_refl _) _)).below ((Below.refl _ _).alloc (Nat.le_refl _) _)).below ((Below.refl _ _).alloc (Nat.le_refl _) _))
  hr := (((((RqAt.new w r).below ((Below.refl _ _).alloc (Nat.le_refl _) _)).below ((Below.refl _ _).alloc (Nat.le_refl _) _)).below ((Below.refl _ _).alloc (Nat.le_refl _) _)).below ((Below.refl _ _).alloc (Nat.le_refl _) _))
  hm := by
    have h := new_cell ((w.alloc (.cells #[.string r.principal, .string r.account, .string r.action, .string r.resource, .int .i64 r.len, .string r.digits, r.mv] 30)).alloc (.cells #[.bool deny] 4)) #[.func (.func (if ex then 24 else 23)) #[] #[]] 72 0 (by simp)
    simp only [World.size_alloc] at h
    exact up (up h _) _
  ht := by
    have h := TgtAt.new ((((w.alloc (.cells #[.string r.principal, .string r.account, .string r.action, .string r.resource, .int .i64 r.len, .string r.digits, r.mv] 30)).alloc (.cells #[.bool deny] 4)).alloc (.cells #[.func (.func (if ex then 24 else 23)) #[] #[]] 72)).alloc (.cells #[.slice pw who.length cw] 33)) r.resource r.len r.digits (!deny)
    simp only [World.size_alloc] at h
    exact h
  hl := hl

set_option maxHeartbeats 800000 in
set_option maxRecDepth 100000 in
theorem covers_any (ss : List SV) (p : Option Addr) (cp : Nat) (r : Rq) (f : Int → Option (List UInt8)) (deny ex : Bool) (who : List ByteArray) (pw : Option Addr) (cw : Nat) (w : World) (hE : Hid (EnvOk w r f)) (hl : ss.length ≤ 1048576) (hS : Hid (StmtsAt w p ss)) (hO : Hid (∀ s ∈ ss, StmtOk w f s)) (hws : Hid (StrsAt w pw who)) (hwl : who.length ≤ 1048576) :
    Calls Tryd.prog 22 #[.slice p ss.length cp, .agg #[.string r.principal, .string r.account, .string r.action, .string r.resource, .int .i64 r.len, .string r.digits, r.mv], .bool deny, .func (.func (if ex then 24 else 23)) #[] #[], .slice pw who.length cw] w fun e w' => e = .returned (.bool (ss.any (coverB f r deny ex who))) ∧ Below w.heap.size w w' := by
  have hC := hid (caught_new w r deny ex who pw cw hws.out hwl)
  have eg : ∀ args w, (callFunc 30 args).run Tryd.prog w = .ok (.enter 30 args) w := enters_of Tryd.func30 (by kernel_rfl) rfl
  generalize hF : (Value.func (.func (if ex then 24 else 23)) #[] #[]) = F at *
  have HF := hid hF
  clear hF
  go_enter Tryd.func22, Tryd.ntmps22
  have hB5 := hid ((((((Below.refl w.heap.size w).alloc (Nat.le_refl _) (.cells #[.string r.principal, .string r.account, .string r.action, .string r.resource, .int .i64 r.len, .string r.digits, r.mv] 30)).alloc (by simp) (.cells #[.bool deny] 4)).alloc (by simp; omega) (.cells #[F] 72)).alloc (by simp; omega) (.cells #[.slice pw who.length cw] 33)).alloc (by simp; omega) (.cells #[.string r.resource, .int .i64 r.len, .string r.digits, .bool (!deny)] 74))
  go_wp2_with fail
  refine (contFuncT 30 #[.pointer (some ⟨w.heap.size + 1, 0, none⟩), .pointer (some ⟨w.heap.size + 3, 0, none⟩), .pointer (some ⟨w.heap.size, 0, none⟩), .pointer (some ⟨w.heap.size + 2, 0, none⟩), .pointer (some ⟨w.heap.size + 4, 0, none⟩)] ss (coverB f r deny ex who) p cp _ eg hl (hid (hS.out.below hB5.out)) (hid (fun s hs W hb => clos30 s r f deny ex who _ _ _ _ _ pw cw W (hC.out.below hb) (hE.out.below (hB5.out.trans (hb.mono hB5.out.size))) ((hO.out s hs).below (hB5.out.trans (hb.mono hB5.out.size)))))).mono ?_
  rintro e w1 ⟨rfl, hb1⟩
  go_wp2
  go_ret
  exact ⟨rfl, hB5.out.trans (hb1.mono hB5.out.size)⟩
end Go.Proofs.Qxb6613124aDoor
