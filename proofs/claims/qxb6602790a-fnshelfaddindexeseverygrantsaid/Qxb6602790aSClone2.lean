import Derived.Test.Qxb6602790aSClone
namespace Go.Proofs.Qxb6602790a
open Go.RowKit Go.Deep
attribute [local go_sem ↓] Go.wp_at_zero Go.wp_at_succ

theorem cell_below {w w' : World} {B : Nat} {a : Addr} {v : Value} (hb : Below B w w') (hlt : a.block < B) (h : w.cell? a = some v) : w'.cell? a = some v := by
  rw [World.cell?_of_block (w := w) (hb.block a.block hlt)]; exact h
theorem Strs.below' {w w' : World} {p : Option Addr} {n : Nat} {ss : List ByteArray} (h : Strs w p n ss) (hb : Below w.heap.size w w') : Strs w' p n ss :=
  ⟨h.len, fun j hj => by
    obtain ⟨b, off, e, hc⟩ := h.at_ j hj
    exact ⟨b, off, e, fun i hi => cell_below hb (World.block_lt_of_cell? w _ (hc i hi)) (hc i hi)⟩⟩
theorem SetCells.below {w w' : World} {b o : Nat} {D : Dat} {X : Adr} {j : Nat} (h : SetCells w b o D X j) (hb : Below w.heap.size w w') : SetCells w' b o D X j := by
  obtain ⟨h1, h2, h3, h4, h5⟩ := h
  have hl : b < w.heap.size := World.block_lt_of_cell? w _ h1
  exact ⟨cell_below hb hl h1, cell_below hb hl h2, cell_below hb hl h3, cell_below hb hl h4, cell_below hb hl h5⟩
theorem GrCells.below {w w' : World} {b o : Nat} {D : Dat} {X : Adr} {j i : Nat} (h : GrCells w b o D X j i) (hb : Below w.heap.size w w') : GrCells w' b o D X j i := by
  obtain ⟨h1, h2, h3⟩ := h
  have hl : b < w.heap.size := World.block_lt_of_cell? w _ h1
  exact ⟨cell_below hb hl h1, cell_below hb hl h2, cell_below hb hl h3⟩
theorem Reads.below {w w' : World} {p : Option Addr} {n : Nat} {D : Dat} {X : Adr} (h : Reads w p n D X) (hb : Below w.heap.size w w') : Reads w' p n D X :=
  ⟨fun j hj => by obtain ⟨b, off, e, hc⟩ := h.at_ j hj; exact ⟨b, off, e, hc.below hb⟩, fun j hj => (h.lic j hj).below' hb, h.licn,
    fun j hj i hi => by obtain ⟨b, off, e, hc⟩ := h.gr j hj i hi; exact ⟨b, off, e, hc.below hb⟩, h.grn, fun j hj i hi => (h.ids j hj i hi).below' hb, h.idsn⟩

def CopiedSets (w : World) (n : Nat) (D : Dat) (e : Ending) (w' : World) : Prop :=
  ∃ p' c' X', e = .returned (.slice p' n c') ∧ Reads w' p' n D X' ∧ Below w.heap.size w w' ∧ (p' = none → n = 0 ∧ c' = 0)
/-- What the row of copies is good for. -/
theorem CsRow.reads {w1 wr : World} {cb n : Nat} {D : Dat} (h : CsRow w1 wr cb n D n) : ∃ X', Reads wr (some ⟨cb, 0, none⟩) n D X' := by
  obtain ⟨f, hr, hf⟩ := h.row
  have hl : ∀ j, ∃ x : Option Addr × Nat, j < n → f (j * 5 + 3) = .slice x.1 (D.ln j) x.2 ∧ Strs wr x.1 (D.ln j) (D.ls j) ∧ (x.1 = none → D.ln j = 0 ∧ x.2 = 0) := fun j => by
    by_cases hj : j < n
    · obtain ⟨_, _, _, ⟨lp, lc, h4, h5, _, h7⟩, _⟩ := hf j hj
      exact ⟨(lp, lc), fun _ => ⟨h4, h5, h7⟩⟩
    · exact ⟨(none, 0), fun h => absurd h hj⟩
  have hg : ∀ j, ∃ x : Option Addr × Nat, j < n → f (j * 5 + 4) = .slice x.1 (D.gn j) x.2 ∧ (x.1 = none → D.gn j = 0 ∧ x.2 = 0) ∧ (0 < D.gn j → ∃ b g, x.1 = some ⟨b, 0, none⟩ ∧ wr.rowIs b 48 (D.gn j * 3) g ∧ ∀ i, i < D.gn j → GrAt wr (cb + 1) D j i g) := fun j => by
    by_cases hj : j < n
    · obtain ⟨_, _, _, _, gp, gc, h8, h9, h10⟩ := hf j hj
      exact ⟨(gp, gc), fun _ => ⟨h8, h9, fun hp => by obtain ⟨b, g, e, _, h1, h2⟩ := h10 hp; exact ⟨b, g, e, h1, h2⟩⟩⟩
    · exact ⟨(none, 0), fun h => absurd h hj⟩
  obtain ⟨L, hL⟩ := Classical.axiomOfChoice hl
  obtain ⟨G, hG⟩ := Classical.axiomOfChoice hg
  have hi : ∀ q : Nat × Nat, ∃ x : Option Addr × Nat, q.1 < n → q.2 < D.gn q.1 → (∃ b, (G q.1).1 = some ⟨b, 0, none⟩ ∧ wr.cell? ⟨b, q.2 * 3, none⟩ = some (.string (D.t q.1 q.2)) ∧ wr.cell? ⟨b, q.2 * 3 + 1, none⟩ = some (.bool (D.a q.1 q.2)) ∧ wr.cell? ⟨b, q.2 * 3 + 2, none⟩ = some (.slice x.1 (D.inn q.1 q.2) x.2)) ∧
      Strs wr x.1 (D.inn q.1 q.2) (D.is q.1 q.2) ∧ (x.1 = none → D.inn q.1 q.2 = 0 ∧ x.2 = 0) := fun q => by
    by_cases hj : q.1 < n
    · by_cases hi : q.2 < D.gn q.1
      · obtain ⟨_, _, h3⟩ := hG q.1 hj
        obtain ⟨b, g, e, hrow, hall⟩ := h3 (by omega)
        obtain ⟨a1, a2, ip, ic, a3, a4, _, a6⟩ := hall q.2 hi
        refine ⟨(ip, ic), fun _ _ => ⟨⟨b, e, ?_, ?_, ?_⟩, a4, a6⟩⟩
        · rw [hrow.cell (by omega), a1]
        · rw [hrow.cell (by omega), a2]
        · rw [hrow.cell (by omega), a3]
      · exact ⟨(none, 0), fun _ h => absurd h hi⟩
    · exact ⟨(none, 0), fun h => absurd h hj⟩
  obtain ⟨I, hI⟩ := Classical.axiomOfChoice hi
  refine ⟨⟨fun j => (L j).1, fun j => (L j).2, fun j => (G j).1, fun j => (G j).2, fun j i => (I (j, i)).1, fun j i => (I (j, i)).2⟩, ⟨fun j hj => ⟨cb, 0, rfl, ?_⟩, fun j hj => (hL j hj).2.1, fun j hj => (hL j hj).2.2, fun j hj i hi => ?_, fun j hj => (hG j hj).2.1, fun j hj i hi => (hI (j, i) hj hi).2.1, fun j hj i hi => (hI (j, i) hj hi).2.2⟩⟩
  · obtain ⟨h1, h2, h3, _, _⟩ := hf j hj
    rw [Nat.zero_add]
    exact ⟨by rw [hr.cell (by omega), h1], by rw [hr.cell (by omega), h2], by rw [hr.cell (by omega), h3], by rw [hr.cell (by omega), (hL j hj).1], by rw [hr.cell (by omega), (hG j hj).1]⟩
  · obtain ⟨⟨b, e, h1, h2, h3⟩, _⟩ := hI (j, i) hj hi
    exact ⟨b, 0, e, by rw [Nat.zero_add]; exact ⟨h1, h2, h3⟩⟩

theorem facts14 {wx w2 : World} {gsb gn i g7 : Nat} {f : Nat → Value} {v0 v1 v2 : Value} (hf : wx.rowIs gsb 48 (gn * 3) f) (hgr : wx.drew.grownBy w2 none) (hi : i < gn) (x0 : wx.cell? ⟨g7, 0, none⟩ = some v0) (x1 : wx.cell? ⟨g7, 1, none⟩ = some v1) (x2 : wx.cell? ⟨g7, 2, none⟩ = some v2) :
    w2.cell? ⟨gsb, i * 3, none⟩ = some (f (i * 3)) ∧ w2.cell? ⟨gsb, i * 3 + 1, none⟩ = some (f (i * 3 + 1)) ∧ w2.cell? ⟨gsb, i * 3 + 2, none⟩ = some (f (i * 3 + 2)) ∧
    w2.frozen? ⟨gsb, i * 3, none⟩ = false ∧ w2.frozen? ⟨gsb, i * 3 + 1, none⟩ = false ∧ w2.frozen? ⟨gsb, i * 3 + 2, none⟩ = false ∧
    w2.cell? ⟨g7, 0, none⟩ = some v0 ∧ w2.cell? ⟨g7, 1, none⟩ = some v1 ∧ w2.cell? ⟨g7, 2, none⟩ = some v2 := by
  have hg := grown_left' hgr
  have q := rowIs_grown hf hg (by simp)
  have lg : g7 < wx.heap.size := World.block_lt_of_cell? wx _ x0
  have hc : ∀ (o : Nat) (v : Value), wx.cell? ⟨g7, o, none⟩ = some v → w2.cell? ⟨g7, o, none⟩ = some v := fun o v h => by
    rw [World.cell?_of_block (w := wx) (hg.block g7 lg (by simp))]; exact h
  exact ⟨q.cell (by omega), q.cell (by omega), q.cell (by omega), q.frozen _, q.frozen _, q.frozen _, hc _ _ x0, hc _ _ x1, hc _ _ x2⟩

theorem facts16 {wx w2 : World} {cb n j b o : Nat} {f : Nat → Value} {v0 v1 v2 v3 : Value} (hf : wx.rowIs cb 46 (n * 5) f) (hgr : wx.drew.grownBy w2 none) (hj : j < n) (x0 : wx.cell? ⟨b, o, none⟩ = some v0) (x1 : wx.cell? ⟨b, o + 1, none⟩ = some v1) (x2 : wx.cell? ⟨b, o + 2, none⟩ = some v2) (x3 : wx.cell? ⟨b, o + 3, none⟩ = some v3) :
    w2.cell? ⟨cb, j * 5, none⟩ = some (f (j * 5)) ∧ w2.cell? ⟨cb, j * 5 + 1, none⟩ = some (f (j * 5 + 1)) ∧ w2.cell? ⟨cb, j * 5 + 2, none⟩ = some (f (j * 5 + 2)) ∧ w2.cell? ⟨cb, j * 5 + 3, none⟩ = some (f (j * 5 + 3)) ∧ w2.cell? ⟨cb, j * 5 + 4, none⟩ = some (f (j * 5 + 4)) ∧
    w2.frozen? ⟨cb, j * 5, none⟩ = false ∧ w2.frozen? ⟨cb, j * 5 + 1, none⟩ = false ∧ w2.frozen? ⟨cb, j * 5 + 2, none⟩ = false ∧ w2.frozen? ⟨cb, j * 5 + 3, none⟩ = false ∧ w2.frozen? ⟨cb, j * 5 + 4, none⟩ = false ∧
    w2.cell? ⟨b, o, none⟩ = some v0 ∧ w2.cell? ⟨b, o + 1, none⟩ = some v1 ∧ w2.cell? ⟨b, o + 2, none⟩ = some v2 ∧ w2.cell? ⟨b, o + 3, none⟩ = some v3 := by
  have hg := grown_left' hgr
  have q := rowIs_grown hf hg (by simp)
  have lg : b < wx.heap.size := World.block_lt_of_cell? wx _ x0
  have hc : ∀ (o : Nat) (v : Value), wx.cell? ⟨b, o, none⟩ = some v → w2.cell? ⟨b, o, none⟩ = some v := fun o v h => by
    rw [World.cell?_of_block (w := wx) (hg.block b lg (by simp))]; exact h
  exact ⟨q.cell (by omega), q.cell (by omega), q.cell (by omega), q.cell (by omega), q.cell (by omega), q.frozen _, q.frozen _, q.frozen _, q.frozen _, q.frozen _, hc _ _ x0, hc _ _ x1, hc _ _ x2, hc _ _ x3⟩
theorem five_far {w2 : World} {cb b o : Nat} {p0 p1 p2 p3 p4 : Nat} {u0 u1 u2 u3 u4 v0 v1 v2 v3 : Value} (hne : cb ≠ b) (x0 : w2.cell? ⟨b, o, none⟩ = some v0) (x1 : w2.cell? ⟨b, o + 1, none⟩ = some v1) (x2 : w2.cell? ⟨b, o + 2, none⟩ = some v2) (x3 : w2.cell? ⟨b, o + 3, none⟩ = some v3) :
    (((((w2.setCell ⟨cb, p0, none⟩ u0).setCell ⟨cb, p1, none⟩ u1).setCell ⟨cb, p2, none⟩ u2).setCell ⟨cb, p3, none⟩ u3).setCell ⟨cb, p4, none⟩ u4).cell? ⟨b, o, none⟩ = some v0 ∧
    (((((w2.setCell ⟨cb, p0, none⟩ u0).setCell ⟨cb, p1, none⟩ u1).setCell ⟨cb, p2, none⟩ u2).setCell ⟨cb, p3, none⟩ u3).setCell ⟨cb, p4, none⟩ u4).cell? ⟨b, o + 1, none⟩ = some v1 ∧
    (((((w2.setCell ⟨cb, p0, none⟩ u0).setCell ⟨cb, p1, none⟩ u1).setCell ⟨cb, p2, none⟩ u2).setCell ⟨cb, p3, none⟩ u3).setCell ⟨cb, p4, none⟩ u4).cell? ⟨b, o + 2, none⟩ = some v2 ∧
    (((((w2.setCell ⟨cb, p0, none⟩ u0).setCell ⟨cb, p1, none⟩ u1).setCell ⟨cb, p2, none⟩ u2).setCell ⟨cb, p3, none⟩ u3).setCell ⟨cb, p4, none⟩ u4).cell? ⟨b, o + 3, none⟩ = some v3 := by
  have h : ∀ (o : Nat) (v : Value), w2.cell? ⟨b, o, none⟩ = some v → (((((w2.setCell ⟨cb, p0, none⟩ u0).setCell ⟨cb, p1, none⟩ u1).setCell ⟨cb, p2, none⟩ u2).setCell ⟨cb, p3, none⟩ u3).setCell ⟨cb, p4, none⟩ u4).cell? ⟨b, o, none⟩ = some v := fun o v hv => by
    rw [World.cell?_setCell_far _ _ _ _ hne, World.cell?_setCell_far _ _ _ _ hne, World.cell?_setCell_far _ _ _ _ hne, World.cell?_setCell_far _ _ _ _ hne, World.cell?_setCell_far _ _ _ _ hne]; exact hv
  exact ⟨h _ _ x0, h _ _ x1, h _ _ x2, h _ _ x3⟩
theorem GrAt.mono {w : World} {base base' : Nat} {D : Dat} {j i : Nat} {f : Nat → Value} (h : GrAt w base D j i f) (hb : base' ≤ base) : GrAt w base' D j i f := by
  obtain ⟨h1, h2, ip, ic, h3, h4, h5, h6⟩ := h
  exact ⟨h1, h2, ip, ic, h3, h4, fun b off e => Nat.le_trans hb (h5 b off e), h6⟩
theorem GsRow.full {w1 wr w2 : World} {gsb cb : Nat} {D : Dat} {j : Nat} (h : GsRow w1 wr gsb (D.gn j) D j (D.gn j)) (hb : cb + 1 ≤ gsb) (hg : wr.grownBy w2 none) :
    ∃ b g, some (⟨gsb, 0, none⟩ : Addr) = some ⟨b, 0, none⟩ ∧ cb + 1 ≤ b ∧ w2.rowIs b 48 (D.gn j * 3) g ∧ ∀ i, i < D.gn j → GrAt w2 (cb + 1) D j i g := by
  obtain ⟨f, hr, hf⟩ := h.row
  exact ⟨gsb, f, rfl, hb, rowIs_grown hr hg (by simp), fun i hi => ((hf i hi).kept hg (fun b e => by cases e) (fun _ _ => rfl)).mono (by omega)⟩

set_option maxHeartbeats 8000000 in
set_option maxRecDepth 100000 in
theorem cloneSets_w (p : Option Addr) (n c : Nat) (D : Dat) (X : Adr) (w : World) (h : Reads w p n D X) (hp : p = none → n = 0 ∧ c = 0) (hn : n ≤ 4096) (hS : Small D n) :
    Calls Try.prog 25 #[.slice p n c] w fun e w' => CopiedSets w n D e w' := by
  cases p with
  | none =>
    obtain ⟨rfl, rfl⟩ := hp rfl
    have hq := fun w => Lib.run_eql_slice_nil (P := Try.prog) w 42 46 none 0 0 0 0 Try.underlying42
    have HR := hid h
    clear h
    go_enter Try.func25, Try.ntmps25
    go_wp2
    go_ret
    exact ⟨none, 0, X, rfl, HR.out, Below.refl _ _, fun _ => ⟨rfl, rfl⟩⟩
  | some ad =>
    have hq := fun w => Lib.run_eql_slice_nil (P := Try.prog) w 42 46 (some ad) n c 0 0 Try.underlying42
    have hmk := run_make_multi (P := Try.prog) 42 46 _ 5 72 Try.underlying42 Try.info46 _ rfl n (by omega) (by omega)
    have HR := hid h
    have HSm := hid hS
    clear h hS hp
    have hrow := rowIs_madeM w #[.int .i64 0, .int .i64 0, .int .i64 0, .slice none 0 0, .slice none 0 0] (n * 5) 46
    have HC0 : Hid (CsRow (w.alloc (.cells (madeCells #[.int .i64 0, .int .i64 0, .int .i64 0, .slice none 0 0, .slice none 0 0] (n * 5)) 46)) (w.alloc (.cells (madeCells #[.int .i64 0, .int .i64 0, .int .i64 0, .slice none 0 0, .slice none 0 0] (n * 5)) 46)) w.heap.size n D 0) :=
      ⟨by obtain ⟨f, hf⟩ := hrow; exact ⟨f, hf, fun j hj => absurd hj (by omega)⟩, grownBy_refl _ _, by rw [nblk_alloc]; omega⟩
    have HB0 : Hid (Below w.heap.size w (w.alloc (.cells (madeCells #[.int .i64 0, .int .i64 0, .int .i64 0, .slice none 0 0, .slice none 0 0] (n * 5)) 46))) := (Below.refl _ _).grown (World.grownBy_alloc w _ none) (Nat.le_refl _) (fun k e => by cases e)
    clear hrow
    go_enter Try.func25, Try.ntmps25
    go_wp2_with fail
    generalize w.alloc (.cells (madeCells #[.int .i64 0, .int .i64 0, .int .i64 0, .slice none 0 0, .slice none 0 0] (n * 5)) 46) = wc at *
    generalize hcb : w.heap.size = cb at *
    go_loopw [15] (fun vj wr => ∃ j : Nat, vj = .int .i64 j ∧ j ≤ n ∧ Hid (CsRow wc wr cb n D j)) (fun vj _ => n - (intOf vj).toNat)
    case atStart => exact ⟨0, rfl, Nat.zero_le _, HC0⟩
    case round =>
      obtain ⟨j, rfl, hj, HCS⟩ := hrel
      by_cases hlt : j < n
      · obtain ⟨b, off, hpe, h0, h1, h2, hL, hG⟩ := HR.out.at_ j hlt
        injection hpe with hpe
        subst hpe
        have HLS := hid (HR.out.lic j hlt)
        have HLN := hid (HR.out.licn j hlt)
        have HGR := hid (HR.out.gr j hlt)
        have HGN := hid (HR.out.grn j hlt)
        have HIS := hid (HR.out.ids j hlt)
        have HIN := hid (HR.out.idsn j hlt)
        have HBl : Hid (Below cb w wr) := HB0.out.grown HCS.out.grown (by rw [← hcb]; exact HB0.out.size) (fun k e => by injection e with e; omega)
        have hbl : b < cb := by rw [← hcb]; exact World.block_lt_of_cell? w _ h0
        have c0 := (HBl.out.cell (p := ⟨b, off + j * 5, none⟩) hbl).trans h0
        have c1 := (HBl.out.cell (p := ⟨b, off + j * 5 + 1, none⟩) hbl).trans h1
        have c2 := (HBl.out.cell (p := ⟨b, off + j * 5 + 2, none⟩) hbl).trans h2
        have c3 := (HBl.out.cell (p := ⟨b, off + j * 5 + 3, none⟩) hbl).trans hL
        have c4 := (HBl.out.cell (p := ⟨b, off + j * 5 + 4, none⟩) hbl).trans hG
        have HC0c := hid h0
        have HC1c := hid h1
        have HC2c := hid h2
        have HC3c := hid hL
        have HC4c := hid hG
        clear h0 h1 h2 hL hG
        cases hgp : X.gp j with
        | none =>
          obtain ⟨hgn0, hgc0⟩ := HGN.out hgp
          rw [hgp, hgn0, hgc0] at c4
          have HCq := HCS
          have HLq := hid (HLS.out.below' (by rw [hcb]; exact HBl.out))
          have j0 : (0 : Int) ≤ (j : Int) := by omega
          have j1 : (j : Int) < (n : Int) := by omega
          have hln : D.ln j ≤ 1048576 := (HSm.out j hlt).1.1
          have hbcb : cb ≠ b := by omega
          have lb : b < wr.heap.size := World.block_lt_of_cell? wr _ c0
          have c0d : wr.drew.cell? _ = _ := c0
          have c1d : wr.drew.cell? _ = _ := c1
          have c2d : wr.drew.cell? _ = _ := c2
          have c3d : wr.drew.cell? _ = _ := c3
          obtain ⟨f, hf, _⟩ := HCq.out.row
          have HF := hid hf
          clear hf
          generalize X.lp j = lp at *
          generalize X.lc j = lc at *
          go_wp2_with fail
          go_region_held3 (fun w' => w'.cell? ⟨b, off + j * 5, none⟩ = some (.int .i64 (D.nb j)) ∧ w'.cell? ⟨b, off + j * 5 + 1, none⟩ = some (.int .i64 (D.na j)) ∧ w'.cell? ⟨b, off + j * 5 + 2, none⟩ = some (.int .i64 (D.dp j)) ∧ w'.cell? ⟨b, off + j * 5 + 3, none⟩ = some (.slice lp (D.ln j) lc))
            (first
              | with_reducible exact ⟨c0d, c1d, c2d, c3d⟩
              | with_reducible exact ⟨y0, y1, y2, y3⟩
              | with_reducible exact five_far hbcb y0 y1 y2 y3
              | with_reducible exact ⟨c0, c1, c2, c3⟩)
            ((go_at_call 10; refine (clone2_w lp (D.ln j) lc (D.ls j) _ HLq.out.drew HLN.out hln).mono ?_; rintro e w2 ⟨pp, cc, rfl, k1, hgr, k3, k4, k5⟩; obtain ⟨q0, q1, q2, q3, q4, f0, f1, f2, f3, f4, y0, y1, y2, y3⟩ := facts16 HF.out hgr hlt c0 c1 c2 c3))
          all_goals (
            have HCz := hid (HCq.out.step (grown_left' hgr) k1 (fun b off e => (k3 b off e).1) k4 (gp := none) (gc := 0) (fun _ => ⟨hgn0, rfl⟩) (fun h => by omega))
            rw [hgn0] at HCz
            clear q0 q1 q2 q3 q4 f0 f1 f2 f3 f4 y0 y1 y2 y3
            go_wp2
            go_roundw
            case rel => exact ⟨j + 1, by go_num, by omega, HCz⟩
            case measure => simp [intOf]; omega)
        | some ga =>
          have hmk2 := run_make_multi (P := Try.prog) 44 48 _ 3 48 Try.underlying44 Try.info48 _ rfl (D.gn j) (by have := (HSm.out j hlt).2.1; omega) (by have := (HSm.out j hlt).2.1; omega)
          rw [hgp] at c4
          have hgm := (HSm.out j hlt).2.1
          have c4m := cell_add_alloc (o := (.cells (madeCells #[.string ByteArray.empty, .bool false, .slice none 0 0] (D.gn j * 3)) 48)) c4
          have hrow := rowIs_madeM wr #[.string ByteArray.empty, .bool false, .slice none 0 0] (D.gn j * 3) 48
          have HG0 : Hid (GsRow (wr.alloc (.cells (madeCells #[.string ByteArray.empty, .bool false, .slice none 0 0] (D.gn j * 3)) 48)) (wr.alloc (.cells (madeCells #[.string ByteArray.empty, .bool false, .slice none 0 0] (D.gn j * 3)) 48)) wr.heap.size (D.gn j) D j 0) := ⟨by obtain ⟨f, hf⟩ := hrow; exact ⟨f, hf, fun j hj => absurd hj (by omega)⟩, grownBy_refl _ _, by rw [nblk_alloc]; omega⟩
          have HCm := hid (HCS.out.later (World.grownBy_alloc wr (.cells (madeCells #[.string ByteArray.empty, .bool false, .slice none 0 0] (D.gn j * 3)) 48) none))
          have HBm : Hid (Below cb w (wr.alloc (.cells (madeCells #[.string ByteArray.empty, .bool false, .slice none 0 0] (D.gn j * 3)) 48))) := HBl.out.grown (World.grownBy_alloc wr (.cells (madeCells #[.string ByteArray.empty, .bool false, .slice none 0 0] (D.gn j * 3)) 48) none) (by have := HBl.out.size; omega) (fun k e => by cases e)
          have hcbr : cb < wr.heap.size := Nat.lt_of_lt_of_le HCS.out.lt HCS.out.grown.size
          clear hrow
          have HGa : Hid (∀ wz, (wr.alloc (.cells (madeCells #[.string ByteArray.empty, .bool false, .slice none 0 0] (D.gn j * 3)) 48)).grownBy wz (some wr.heap.size) → CsRow wc wz cb n D j) := fun wz hz => HCS.out.later
            ⟨hz.os, hz.tape, hz.output, by have := hz.size; rw [nblk_alloc] at this; omega, fun k hk _ => (hz.block k (by rw [nblk_alloc]; omega) (by simp; omega)).trans (blk_alloc_lt _ _ _ hk)⟩
          clear c0 c1 c2 c3
          go_wp2_with fail
          generalize wr.alloc (.cells (madeCells #[.string ByteArray.empty, .bool false, .slice none 0 0] (D.gn j * 3)) 48) = wm at *
          generalize hgsb : wr.heap.size = gsb at *
          clear hgsb
          have hgcb : cb + 1 ≤ gsb := by omega
          clear c4 c4m HCS HBl HCm
          go_loopw [37] (fun vi wr => ∃ i : Nat, vi = .int .i64 i ∧ i ≤ D.gn j ∧ Hid (GsRow wm wr gsb (D.gn j) D j i)) (fun vi _ => D.gn j - (intOf vi).toNat)
          case atStart => exact ⟨0, rfl, Nat.zero_le _, HG0⟩
          case round =>
            obtain ⟨i, rfl, hi, HGS⟩ := hrel
            have HBi : Hid (Below cb w wr) := HBm.out.grown HGS.out.grown (by have := HBm.out.size; omega) (fun k e => by injection e with e; omega)
            have d4 := (HBi.out.cell (p := ⟨b, off + j * 5 + 4, none⟩) hbl).trans (HC4c.out.trans (by rw [hgp]))
            by_cases hig : i < D.gn j
            · obtain ⟨b6, off6, hpe, hT, hA, hI⟩ := HGR.out i hig
              rw [hgp] at hpe
              injection hpe with hpe
              subst hpe
              have hb6 : b6 < cb := by rw [← hcb]; exact World.block_lt_of_cell? w _ hT
              have e0 := (HBi.out.cell (p := ⟨b6, off6 + i * 3, none⟩) hb6).trans hT
              have e1 := (HBi.out.cell (p := ⟨b6, off6 + i * 3 + 1, none⟩) hb6).trans hA
              have e2 := (HBi.out.cell (p := ⟨b6, off6 + i * 3 + 2, none⟩) hb6).trans hI
              have HIi := hid (HIN.out i hig)
              have HSt : Hid (Strs wr (X.ip j i) (D.inn j i) (D.is j i)) := (HIS.out i hig).below' (by rw [hcb]; exact HBi.out)
              have hinn : D.inn j i ≤ 1048576 := ((HSm.out j hlt).2.2 i hig).2.1
              clear hT hA hI
              generalize X.ip j i = ip at *
              generalize X.ic j i = ic at *
              have i0 : (0 : Int) ≤ (i : Int) := by omega
              have i1 : (i : Int) < (D.gn j : Int) := by omega
              go_wp2_with fail
              have O1 := hid (HGS.out.alloc (.cells #[.string (D.t j i), .bool (D.a j i), .slice ip (D.inn j i) ic] 48))
              have HStx := hid (HSt.out.kept (World.grownBy_alloc wr (.cells #[.string (D.t j i), .bool (D.a j i), .slice ip (D.inn j i) ic] 48) none) (by simp))
              have x0 : (wr.alloc (.cells #[.string (D.t j i), .bool (D.a j i), .slice ip (D.inn j i) ic] 48)).cell? ⟨wr.heap.size, 0, none⟩ = some (.string (D.t j i)) := by rw [cell_of_row _ _ _ _ _ _ (heap_alloc_new wr _)]; rfl
              have x1 : (wr.alloc (.cells #[.string (D.t j i), .bool (D.a j i), .slice ip (D.inn j i) ic] 48)).cell? ⟨wr.heap.size, 1, none⟩ = some (.bool (D.a j i)) := by rw [cell_of_row _ _ _ _ _ _ (heap_alloc_new wr _)]; rfl
              have x2 : (wr.alloc (.cells #[.string (D.t j i), .bool (D.a j i), .slice ip (D.inn j i) ic] 48)).cell? ⟨wr.heap.size, 2, none⟩ = some (.slice ip (D.inn j i) ic) := by rw [cell_of_row _ _ _ _ _ _ (heap_alloc_new wr _)]; rfl
              have hg7 : gsb < wr.heap.size := Nat.lt_of_lt_of_le HGS.out.lt HGS.out.grown.size
              generalize wr.alloc (.cells #[.string (D.t j i), .bool (D.a j i), .slice ip (D.inn j i) ic] 48) = wx at *
              generalize wr.heap.size = g7 at *
              have lg7 : g7 < wx.heap.size := World.block_lt_of_cell? wx _ x0
              have hne7 : gsb ≠ g7 := by omega
              obtain ⟨f, hf, _⟩ := O1.out.row
              have HF := hid hf
              clear hf e0 e1 e2
              go_region_held3 (fun w' => w'.cell? ⟨g7, 0, none⟩ = some (.string (D.t j i)) ∧ w'.cell? ⟨g7, 1, none⟩ = some (.bool (D.a j i)) ∧ w'.cell? ⟨g7, 2, none⟩ = some (.slice ip (D.inn j i) ic))
                (first
                  | exact ⟨x0, x1, x2⟩
                  | exact ⟨y0, y1, y2⟩
                  | (rw [World.cell?_setCell_far _ _ _ _ hne7, World.cell?_setCell_far _ _ _ _ hne7, World.cell?_setCell_far _ _ _ _ hne7, World.cell?_setCell_far _ _ _ _ hne7, World.cell?_setCell_far _ _ _ _ hne7, World.cell?_setCell_far _ _ _ _ hne7, World.cell?_setCell_far _ _ _ _ hne7, World.cell?_setCell_far _ _ _ _ hne7, World.cell?_setCell_far _ _ _ _ hne7]
                     exact ⟨y0, y1, y2⟩))
                ((go_at_call 10; refine (clone2_w ip (D.inn j i) ic (D.is j i) _ HStx.out.drew HIi.out hinn).mono ?_; rintro e w2 ⟨pp, cc, rfl, k1, hgr, k3, k4, k5⟩; obtain ⟨q0, q1, q2, f0, f1, f2, y0, y1, y2⟩ := facts14 HF.out hgr hig x0 x1 x2))
              all_goals (
                have HGz := hid (O1.out.step (grown_left' hgr) hig k1 (fun b off e => (k3 b off e).1) k4)
                go_wp2
                go_roundw
                case rel => exact ⟨i + 1, by go_num, by omega, HGz⟩
                case measure => simp [intOf]; omega)
            · have hie : i = D.gn j := by omega
              have c0 := (HBi.out.cell (p := ⟨b, off + j * 5, none⟩) hbl).trans HC0c.out
              have c1 := (HBi.out.cell (p := ⟨b, off + j * 5 + 1, none⟩) hbl).trans HC1c.out
              have c2 := (HBi.out.cell (p := ⟨b, off + j * 5 + 2, none⟩) hbl).trans HC2c.out
              have c3 := (HBi.out.cell (p := ⟨b, off + j * 5 + 3, none⟩) hbl).trans HC3c.out
              have HCq := hid (HGa.out wr HGS.out.grown)
              have HLq := hid (HLS.out.below' (by rw [hcb]; exact HBi.out))
              have HGf : Hid (GsRow wm wr gsb (D.gn j) D j (D.gn j)) := by rw [hie] at HGS; exact HGS
              clear HGS hie d4
              have j0 : (0 : Int) ≤ (j : Int) := by omega
              have j1 : (j : Int) < (n : Int) := by omega
              have hln : D.ln j ≤ 1048576 := (HSm.out j hlt).1.1
              have hbcb : cb ≠ b := by omega
              have lb : b < wr.heap.size := World.block_lt_of_cell? wr _ c0
              have c0d : wr.drew.cell? _ = _ := c0
              have c1d : wr.drew.cell? _ = _ := c1
              have c2d : wr.drew.cell? _ = _ := c2
              have c3d : wr.drew.cell? _ = _ := c3
              obtain ⟨f, hf, _⟩ := HCq.out.row
              have HF := hid hf
              clear hf
              generalize X.lp j = lp at *
              generalize X.lc j = lc at *
              go_wp2_with fail
              go_region_held3 (fun w' => w'.cell? ⟨b, off + j * 5, none⟩ = some (.int .i64 (D.nb j)) ∧ w'.cell? ⟨b, off + j * 5 + 1, none⟩ = some (.int .i64 (D.na j)) ∧ w'.cell? ⟨b, off + j * 5 + 2, none⟩ = some (.int .i64 (D.dp j)) ∧ w'.cell? ⟨b, off + j * 5 + 3, none⟩ = some (.slice lp (D.ln j) lc))
                (first
                  | with_reducible exact ⟨c0d, c1d, c2d, c3d⟩
                  | with_reducible exact ⟨y0, y1, y2, y3⟩
                  | with_reducible exact five_far hbcb y0 y1 y2 y3
                  | with_reducible exact ⟨c0, c1, c2, c3⟩)
                ((go_at_call 10; refine (clone2_w lp (D.ln j) lc (D.ls j) _ HLq.out.drew HLN.out hln).mono ?_; rintro e w2 ⟨pp, cc, rfl, k1, hgr, k3, k4, k5⟩; obtain ⟨q0, q1, q2, q3, q4, f0, f1, f2, f3, f4, y0, y1, y2, y3⟩ := facts16 HF.out hgr hlt c0 c1 c2 c3))
              all_goals (
                have HCz := hid (HCq.out.step (grown_left' hgr) k1 (fun b off e => (k3 b off e).1) k4 (gp := some ⟨gsb, 0, none⟩) (gc := D.gn j) (fun e => by cases e) (fun _ => HGf.out.full hgcb (grown_left' hgr)))
                clear q0 q1 q2 q3 q4 f0 f1 f2 f3 f4 y0 y1 y2 y3
                go_wp2
                go_roundw
                case rel => exact ⟨j + 1, by go_num, by omega, HCz⟩
                case measure => simp [intOf]; omega)
      · have e : j = n := by omega
        subst e
        go_wp2
        go_ret
        obtain ⟨X', hX⟩ := HCS.out.reads
        refine ⟨some ⟨cb, 0, none⟩, _, X', rfl, hX, ?_, fun e => by cases e⟩
        rw [hcb]
        exact HB0.out.grown HCS.out.grown (by rw [← hcb]; exact HB0.out.size) (fun k e => by injection e with e; omega)
end Go.Proofs.Qxb6602790a
