/-
  Seat b6003829aD: slices of bytes; bytes.Equal (8) and bytes.HasPrefix (14) over them; the walk of members (12).
-/
import Derived.Test.Qxb6003829aDoorRead
import Derived.Lib.SlBytesConst
import Derived.OwnWalk
namespace Go.Proofs.Qxb6003829aDoor
open Go.RowKit

/-- The slice at p holds the bytes l (where there are none: at whatever address, or nil). -/
def Sl (w : World) (p : Option Addr) (l : List UInt8) : Prop := 0 < l.length → ∃ b o, p = some ⟨b, o, none⟩ ∧ Bs w b o l

theorem Bs.lt {w : World} {b o : Nat} {l : List UInt8} (h : Bs w b o l) (hl : 0 < l.length) : b < w.heap.size := World.block_lt_of_cell? w _ (h 0 hl)
theorem Sl.of {w : World} {b o : Nat} {l : List UInt8} (h : Bs w b o l) : Sl w (some ⟨b, o, none⟩) l := fun _ => ⟨b, o, rfl, h⟩
theorem Sl.nil (w : World) (p : Option Addr) : Sl w p [] := fun h => absurd h (by simp)
theorem Sl.below {w w' : World} {p : Option Addr} {l : List UInt8} (h : Sl w p l) (hB : Below w.heap.size w w') : Sl w' p l := fun hl => by
  obtain ⟨b, o, e, hb⟩ := h hl
  exact ⟨b, o, e, hb.below (hb.lt hl) hB⟩

theorem Sl.bytesIn {w : World} {p : Option Addr} {l : List UInt8} (h : Sl w p l) : Lib.BytesIn w p l.length (l.map fun x => (x.toNat : Int)) := fun hl => by
  obtain ⟨b, o, e, hb⟩ := h hl
  exact ⟨b, o, e, fun i hi => by rw [nums_at l i hi]; exact hb i hi⟩

theorem equalBytes (p1 p2 : Option Addr) (c d : Nat) (l1 l2 : List UInt8) (w : World) (h1 : Sl w p1 l1) (h2 : Sl w p2 l2) :
    Calls Tryd.prog 8 #[.slice p1 l1.length c, .slice p2 l2.length d] w fun e w' => e = .returned (.bool (l1 == l2)) ∧ w' = w := by
  have := Tryd.bytes_Equal_all p1 p2 l1.length c l2.length d _ _ w (by simp) (by simp) h1.bytesIn h2.bytesIn
  rwa [bytesOf_nums, bytesOf_nums] at this

theorem hasPrefixBytes (p1 p2 : Option Addr) (c d : Nat) (l1 l2 : List UInt8) (w : World) (hc : l1.length ≤ c) (h1 : Sl w p1 l1) (h2 : Sl w p2 l2) :
    Calls Tryd.prog 14 #[.slice p1 l1.length c, .slice p2 l2.length d] w fun e w' => e = .returned (.bool (l2.isPrefixOf l1)) ∧ w' = w := by
  have := Tryd.bytes_HasPrefix_all p1 p2 l1.length c l2.length d _ _ w (by simp) (by simp) hc h1.bytesIn h2.bytesIn
  rwa [bytesOf_nums, bytesOf_nums] at this

/-- The cells of the archive's magic. -/
def magicC : Array Value := #[.int .u8 33, .int .u8 60, .int .u8 97, .int .u8 114, .int .u8 99, .int .u8 104, .int .u8 62, .int .u8 10]
theorem magic_bs (w : World) (fr : Nat × Nat) : Bs (w.alloc (.cells magicC 5 fr)) w.heap.size 0 magicB := by
  intro j hj
  rw [World.cell?_alloc_mark, Nat.zero_add]
  have h8 : j < 8 := hj
  match j, h8 with
  | 0, _ => rfl
  | 1, _ => rfl
  | 2, _ => rfl
  | 3, _ => rfl
  | 4, _ => rfl
  | 5, _ => rfl
  | 6, _ => rfl
  | 7, _ => rfl
  | n + 8, h => omega

theorem conv_magic (w : World) : (convert 23 23 (.slice (some ⟨w.heap.size, 0, none⟩) 8 8)).run Tryd.prog (w.alloc (.cells #[.int .u8 33, .int .u8 60, .int .u8 97, .int .u8 114, .int .u8 99, .int .u8 104, .int .u8 62, .int .u8 10] 5)) =
    .ok (.slice (some ⟨w.heap.size, 0, none⟩) 8 8) (w.alloc (.cells magicC 5 (8, 9))) :=
  Lib.run_convert_bytes_const (P := Tryd.prog) w 23 5 magicC 8 8 Tryd.underlying23 Tryd.underlying5

/-- The cells of a row of members. -/
def rowCells (L : List (Got × Value)) : List Value := L.flatMap fun x => [.string ⟨x.1.name.toArray⟩, .int .i64 x.1.off, x.2]
theorem rowCells_len (L : List (Got × Value)) : (rowCells L).length = L.length * 3 := by
  unfold rowCells
  induction L with
  | nil => rfl
  | cons x L ih => rw [List.flatMap_cons, List.length_append, ih]; simp; omega

/-- What members answers. -/
def MembersPost (l : List UInt8) (b o : Nat) (w : World) (e : Ending) (w' : World) : Prop :=
  ((∃ (L : List (Got × Value)) (v : Value), Good l (L.map Prod.fst) ∧ (∀ x ∈ L, DataAt b o x.1 x.2) ∧ e = .returned (.tuple #[v, .nilIface]) ∧ w'.ownsRow w.heap.size 46 3 v L.length (rowCells L)) ∨
    (Bad l ∧ ∃ t p, e = .returned (.tuple #[.slice none 0 0, .iface t p]))) ∧ Below w.heap.size w w'

set_option maxHeartbeats 400000 in
set_option maxRecDepth 100000 in
theorem membersNo (l : List UInt8) (p : Option Addr) (c b o : Nat) (w : World) (hc : l.length ≤ c) (hS : Hid (Sl w p l)) (hm : ¬ magicB <+: l) :
    Calls Tryd.prog 12 #[.slice p l.length c] w (MembersPost l b o w) := by
  have hbel : Hid (Below w.heap.size w (w.alloc (.cells magicC 5 (8, 9)))) := (Below.refl _ _).alloc (Nat.le_refl _) _
  have hcv := conv_magic w
  have cP := hasPrefixBytes p (some ⟨w.heap.size, 0, none⟩) c 8 l magicB (w.alloc (.cells magicC 5 (8, 9))) hc (hS.out.below hbel.out) (Sl.of (magic_bs w (8, 9)))
  rw [show magicB.isPrefixOf l = false by rw [← Bool.not_eq_true, List.isPrefixOf_iff_prefix]; exact hm, show magicB.length = 8 from rfl] at cP
  have HM : Hid (Bad l) := .inl hm
  generalize l.length = n at *
  clear hm
  go_enter Tryd.func12, Tryd.ntmps12
  go_wp2_with (first
    | (go_at_call 14; go_fit cP; rintro e W ⟨rfl, rfl⟩)
    | (go_at_call 15; refine (errorsNew _ _).mono ?_; rintro e W3 ⟨⟨t, p, rfl⟩, hb3⟩))
  go_ret2
  exact ⟨.inr ⟨HM.out, _, _, rfl⟩, hbel.out.trans (hb3.mono hbel.out.size)⟩

theorem info46 : (Tryd.prog.info? 46).map (fun i => (i.zero, i.size, i.bytes)) = some (some (.agg #[.string ⟨#[]⟩, .int .i64 0, .slice none 0 0]), 3, 48) := by kernel_rfl

/-- The loop's relation. -/
def MLoop (l : List UInt8) (b o : Nat) (w : World) (v off : Value) (wr : World) : Prop :=
  ∃ (L : List (Got × Value)) (k : Nat), off = .int .i64 k ∧ Chain l 8 (L.map Prod.fst) k ∧ (∀ x ∈ L, DataAt b o x.1 x.2) ∧ wr.ownsRow w.heap.size 46 3 v L.length (rowCells L) ∧ Below w.heap.size w wr

theorem mloop_step {l : List UInt8} {b o : Nat} {w w1 : World} {v' : Value} {L : List (Got × Value)} {k : Nat} {g : Got} {d : Value} (hch : Chain l 8 (L.map Prod.fst) k) (hD : ∀ x ∈ L, DataAt b o x.1 x.2) (hlt : k < l.length)
    (hst : Step l k g) (hd : DataAt b o g d) (hown : w1.ownsRow w.heap.size 46 3 v' (L.length + 1) (rowCells L ++ [.string ⟨g.name.toArray⟩, .int .i64 g.off, d])) (hb : Below w.heap.size w w1) :
    MLoop l b o w v' (.int .i64 ((k + 60 + g.len + g.len % 2 : Nat) : Int)) w1 := by
  refine ⟨L ++ [(g, d)], _, rfl, ?_, ?_, ?_, hb⟩
  · rw [List.map_append]
    exact chain_snoc hch hlt hst
  · intro x hx
    rcases List.mem_append.1 hx with hx | hx
    · exact hD x hx
    · simp only [List.mem_singleton] at hx
      subst hx
      exact hd
  · have : rowCells (L ++ [(g, d)]) = rowCells L ++ [.string ⟨g.name.toArray⟩, .int .i64 g.off, d] := by simp [rowCells]
    rw [this, List.length_append]
    exact hown

theorem own_below {w W : World} {base : Nat} {e : TypeId} {size : Nat} {v : Value} {n : Nat} {xs : List Value} (h : w.ownsRow base e size v n xs) (hb : Below w.heap.size w W) : W.ownsRow base e size v n xs :=
  h.kept (row := none) ⟨hb.os, hb.tape, hb.output, hb.size, fun k hk _ => hb.block k hk⟩ (by cases v.ownBlock <;> simp)

theorem step_bound {l : List UInt8} {k : Nat} {g : Got} (h : Step l k g) (hl : l.length ≤ 8388608) : g.off + g.len ≤ 8388608 := by
  have := h.1
  have := h.2.2.1
  omega

/-- The two new blocks of 'list = append(list, m)'. -/
theorem two_new {w wr W1 w1 : World} {v : Value} {n : Nat} {xs : List Value} {x y z : Value} (hown : W1.ownsRow w.heap.size 46 3 v n xs) (hnx : Below w.heap.size w wr) (hb1 : Below wr.heap.size wr W1)
    (hg : ((W1.alloc (.cells #[x, y, z] 46)).alloc (.cells #[x, y, z] 46)).grownBy w1 v.ownBlock) :
    w1.cell? ⟨W1.heap.size, 1, none⟩ = some y ∧ w1.cell? ⟨W1.heap.size, 2, none⟩ = some z ∧ Below w.heap.size w w1 := by
  have hne : some W1.heap.size ≠ v.ownBlock := fun e => by have := (hown.lt _ e.symm).2; omega
  have hlt : W1.heap.size < (W1.alloc (.cells #[x, y, z] 46)).heap.size := by simp
  have hbW : Below w.heap.size w W1 := hnx.trans (hb1.mono hnx.size)
  refine ⟨hg.cell (a := ⟨W1.heap.size, 1, none⟩) ?_ hne, hg.cell (a := ⟨W1.heap.size, 2, none⟩) ?_ hne, ?_⟩
  · rw [World.cell?_alloc_past _ _ _ hlt, World.cell?_alloc_mark]; rfl
  · rw [World.cell?_alloc_past _ _ _ hlt, World.cell?_alloc_mark]; rfl
  · exact ((hbW.alloc hbW.size _).alloc (by simp; have := hbW.size; omega) _).grown hg (by simp; have := hbW.size; omega) fun k hk => (hown.lt k hk).1

theorem new_cells (W : World) (x y z : Value) : ∀ (j : Nat) (u : Value), [x, y, z][j]? = some u → ((W.alloc (.cells #[x, y, z] 46)).alloc (.cells #[x, y, z] 46)).cell? ((⟨W.heap.size + 1, 0, none⟩ : Addr).add j) = some u := by
  intro j u hj
  have hs : (W.alloc (.cells #[x, y, z] 46)).heap.size = W.heap.size + 1 := by simp
  have ha : (⟨W.heap.size + 1, 0, none⟩ : Addr).add j = ⟨W.heap.size + 1, j, none⟩ := by
    unfold Addr.add
    by_cases h0 : j = 0
    · subst h0; simp
    · simp [h0]
  rw [ha, ← hs, World.cell?_alloc_mark]
  simpa using hj

set_option maxHeartbeats 400000 in
set_option maxRecDepth 100000 in
theorem membersYes (l : List UInt8) (b o c : Nat) (w : World) (hl : l.length ≤ 8388608) (hc : l.length ≤ c) (hB : Hid (Bs w b o l)) (hm : magicB <+: l) (E : Hid (Env w)) :
    Calls Tryd.prog 12 #[.slice (some ⟨b, o, none⟩) l.length c] w (MembersPost l b o w) := by
  have hbel : Hid (Below w.heap.size w (w.alloc (.cells magicC 5 (8, 9)))) := (Below.refl _ _).alloc (Nat.le_refl _) _
  have h8 : 8 ≤ l.length := hm.length_le
  have hb : b < w.heap.size := hB.out.lt (by omega)
  have hcv := conv_magic w
  have cP := hasPrefixBytes (some ⟨b, o, none⟩) (some ⟨w.heap.size, 0, none⟩) c 8 l magicB (w.alloc (.cells magicC 5 (8, 9))) hc ((Sl.of hB.out).below hbel.out) (Sl.of (magic_bs w (8, 9)))
  rw [show magicB.isPrefixOf l = true by rw [List.isPrefixOf_iff_prefix]; exact hm, show magicB.length = 8 from rfl] at cP
  have cR : Hid (∀ (W : World) (k : Nat), Below w.heap.size w W → k < l.length → Calls Tryd.prog 16 #[.slice (some ⟨b, o, none⟩) l.length c, .int .i64 k] W (ReadPost l b o k W)) := fun W k hW hk =>
    readMember l b o c k W hl hc hk (Nat.lt_of_lt_of_le hb hW.size) (hB.out.below hb hW) (E.out.below hW)
  have HM : Hid (magicB <+: l) := hm
  obtain ⟨n, hn⟩ : ∃ n, n = l.length := ⟨_, rfl⟩
  have Hn : Hid (n = l.length) := hn
  rw [← hn] at cP cR hl hc h8 ⊢
  clear hm hn
  obtain ⟨i0, hi, hz0, hz1, hz2⟩ := info_parts info46
  go_enter Tryd.func12, Tryd.ntmps12
  go_wp2_with (go_at_call 14; go_fit cP; rintro e W ⟨rfl, rfl⟩)
  go_loopw [4, 5] (fun v off wr => MLoop l b o w v off wr) (fun _ off _ => n + 100 - (intOf off).toNat)
  case atStart => exact ⟨[], 8, rfl, rfl, (fun x hx => by cases hx), World.ownsRow_nil _ _ _ _, hbel.out⟩
  case round =>
    obtain ⟨L, k, rfl, hch, hD, hown, hnx⟩ := hrel
    by_cases hlt : k < n
    · have HCH : Hid (Chain l 8 (L.map Prod.fst) k) := hch
      have HD : Hid (∀ x ∈ L, DataAt b o x.1 x.2) := hD
      have hlen : 8 + 60 * L.length ≤ k := by have := chain_len hch; simpa using this
      clear hch hD
      have cR' := cR.out wr k hnx hlt
      go_wp2_with (first
        | (go_at_call 16; go_fit cR'; rintro e W1 ⟨⟨g, d, hst, ⟨a, cp, rfl, ha⟩, rfl⟩ | ⟨hF, t, p, rfl⟩, hb1⟩ <;> have hown1 := own_below hown hb1 <;> try have hgl : g.off + g.len ≤ 8388608 := step_bound hst (by rw [← Hn.out]; omega))
        | (at_builtin; refine wpList_append_own _ rfl (.tmp 27) (.tmp 29) 42 rfl w.heap.size 46 i0 (.agg #[.string ⟨#[]⟩, .int .i64 0, .slice none 0 0]) 3 48 Tryd.underlying42 hi hz0 hz1 hz2 rfl (by decide) _ L.length (rowCells L) rfl ((hown1.alloc _).alloc _) ⟨W1.heap.size + 1, 0, none⟩ 1 1 [.string ⟨g.name.toArray⟩, .int .i64 g.off, .slice (some a) g.len cp] rfl rfl (new_cells _ _ _ _) (by intro u hu; simp at hu; rcases hu with rfl | rfl | rfl <;> rfl) (by unfold maxLen; omega) (by omega) (by have := hnx.size; have := hb1.size; simp; omega) ?_; intro v' w1 hown' hgrow _; obtain ⟨q1, q2, hb2⟩ := two_new hown1 hnx hb1 hgrow))
      · have hof : g.off = k + 60 := hst.2.2.1
        have hwr : Value.int .i64 ((g.off : Int) + (g.len : Int) + (g.len : Int) % 2) = .int .i64 ((k + 60 + g.len + g.len % 2 : Nat) : Int) := by
          congr 1
          rw [hof]
          omega
        rw [hwr]
        refine ⟨mloop_step HCH.out HD.out (by rw [← Hn.out]; exact hlt) hst ⟨a, cp, rfl, ha⟩ hown' hb2, ?_⟩
        simp only [intOf, Int.toNat_natCast]
        omega
      · go_ret2
        exact ⟨.inr ⟨.inr ⟨_, k, HCH.out, by rw [← Hn.out]; exact hlt, hF⟩, _, _, rfl⟩, ((hnx.trans (hb1.mono hnx.size)).alloc (by have := hnx.size; have := hb1.size; omega) _)⟩
    · have HG : Hid (Good l (L.map Prod.fst)) := ⟨HM.out, k, hch, by rw [← Hn.out]; omega⟩
      have HD : Hid (∀ x ∈ L, DataAt b o x.1 x.2) := hD
      clear hch hD
      go_wp2
      go_ret2
      exact ⟨.inl ⟨L, _, HG.out, HD.out, rfl, hown⟩, hnx⟩

/-- members, at whatever slice of bytes. -/
theorem members (l : List UInt8) (p : Option Addr) (c : Nat) (w : World) (hl : l.length ≤ 8388608) (hc : l.length ≤ c) (hS : Sl w p l) (E : Env w) :
    ∃ b o, (0 < l.length → p = some ⟨b, o, none⟩ ∧ Bs w b o l) ∧ Calls Tryd.prog 12 #[.slice p l.length c] w (MembersPost l b o w) := by
  by_cases h0 : 0 < l.length
  · obtain ⟨b, o, rfl, hB⟩ := hS h0
    refine ⟨b, o, fun _ => ⟨rfl, hB⟩, ?_⟩
    by_cases hm : magicB <+: l
    · exact membersYes l b o c w hl hc hB hm E
    · exact membersNo l _ c b o w hc hS hm
  · refine ⟨0, 0, fun h => absurd h h0, membersNo l p c 0 0 w hc hS fun hm => ?_⟩
    have : magicB.length ≤ l.length := hm.length_le
    have h8 : magicB.length = 8 := rfl
    omega
end Go.Proofs.Qxb6003829aDoor
