import Derived.Test.Qxb6602790aSBuilt
import Derived.Test.Qxb6602790aSReads2
namespace Go.Proofs.Qxb6602790a
open Go.RowKit Go.Deep SLaw

theorem Try.info59 : (Try.prog.info? 59).map (fun i => (i.zero, i.size, i.bytes)) = some (some (.agg #[.string ByteArray.empty, .bool false, .slice none 0 0, .bool false, .slice none 0 0, .bool false, .slice none 0 0, .bool false, .slice none 0 0, .slice none 0 0]), 10, 168) := by kernel_rfl

def BuiltE (wc wr : World) (B : Nat) (D : Dat) (X : Adr) (j : Nat) : Prop := ∃ col st, Built wc wr B (B + 2) B (B + 1) D X j col st

/-- What the call of ZZShelfAdd leaves. -/
def AddedTo (wc w2 : World) (B : Nat) (D : Dat) (X : Adr) (j : Nat) (e : Ending) (w3 : World) : Prop :=
  e = .returned (.tuple #[]) ∧ BuiltE wc w3 B D X (j + 1) ∧ ∀ (a : Addr) (v : Value), a.block < B → w2.cell? a = some v → w3.cell? a = some v
theorem Built.call28 {wc wq : World} {B : Nat} {D : Dat} {X : Adr} {j n : Nat} {col : Nat → Nat} {st : List Sto} (h : Built wc wq B (B + 2) B (B + 1) D X j col st) (hL : Lens D n) (hj : j < n) (hn : n ≤ 4096) (hsm : Small D n) (hG : sumTo D.gn n ≤ 4096) (hI : sumTo (idsOf D) n ≤ 4096)
    (gp : Option Addr) (gc : Nat) (hgr : ∃ ip ic, Grants wq col gp (D.gn j) (D.t j) (D.a j) ip (D.inn j) ic (D.is j) ∧ ∀ i, i < D.gn j → (ip i = none ↔ X.ip j i = none) ∧ ∀ b off, ip i = some ⟨b, off, none⟩ → b < wq.heap.size)
    (w2 : World) (lp : Option Addr) (lc : Nat) (hg : wq.grownBy w2 none) (hs : Strs w2 lp (D.ln j) (D.ls j)) (hb : ∀ b off, lp = some ⟨b, off, none⟩ → wq.heap.size ≤ b ∧ b < w2.heap.size) (hln : lp = none ↔ X.lp j = none) :
    Calls Try.prog 28 #[.pointer (some ⟨B + 2, 0, none⟩), .int .i64 (D.nb j), .int .i64 (D.na j), .int .i64 (D.dp j), .slice lp (D.ln j) lc, .slice gp (D.gn j) gc] w2 fun e w3 => AddedTo wc w2 B D X j e w3 := by
  have hgn : D.gn j ≤ 4096 := by
    have := sumTo_le D.gn (a := j + 1) (b := n) (by omega)
    rw [sumTo] at this
    omega
  obtain ⟨ip, ic, hgr, hgi⟩ := hgr
  have h2 := h.grown hg
  have hgr2 := hgr.turn (Turn.of_none hg) (fun _ _ => rfl) (fun i hi => (hgi i hi).2)
  refine (shelfAdd_w w2 B (B + 2) B (B + 1) col st (allF D j) (allU D j) (D.nb j) (D.na j) (D.dp j) lp (D.ln j) lc gp (D.gn j) gc h2.shelf (by rw [h.len]; omega) (D.t j) (D.a j) ip (D.inn j) ic (D.is j) hgr2 hgn
    (fun i hi => ((hsm j hj).2.2 i hi).1) (fun i hi => ((hsm j hj).2.2 i hi).2) (fun i hi => by rw [h.len]; exact Nat.le_trans (partF_len hL hj hi) (by omega)) (fun i hi => by rw [h.len]; exact Nat.le_trans (partU_len D hj hi) (by omega))).mono ?_
  rintro e w3 ⟨rfl, hn3⟩
  rw [h.len] at hn3
  refine ⟨rfl, ?_, fun a v ha hc => ?_⟩
  · exact h2.add (s := ⟨D.nb j, D.na j, D.dp j, lp, D.ln j, lc, gp, D.gn j, gc⟩)
      ⟨rfl, rfl, rfl, rfl, rfl, hs, fun b off e => ⟨h.shelf.clip b (hb b off e).1, (hb b off e).2⟩, hln, ip, ic, hgr2, fun i hi => ⟨(hgi i hi).1, fun b off e => Nat.lt_of_lt_of_le ((hgi i hi).2 b off e) hg.size⟩⟩ hn3
  · obtain ⟨_, _, _, ht⟩ := hn3
    exact ht.cell (h.shelf.low _ ha) hc

theorem facts62 {wx w2 w3 : World} {gsb gn i g7 : Nat} {f : Nat → Value} {v0 v1 v2 : Value} (hf : wx.rowIs gsb 59 (gn * 10) f) (hgr : wx.drew.grownBy w2 none) (hgr2 : w2.grownBy w3 none) (hi : i < gn) (x0 : wx.cell? ⟨g7, 0, none⟩ = some v0) (x1 : wx.cell? ⟨g7, 1, none⟩ = some v1) (x2 : wx.cell? ⟨g7, 2, none⟩ = some v2) :
    (w3.cell? ⟨gsb, i * 10, none⟩ = some (f (i * 10)) ∧ w3.cell? ⟨gsb, i * 10 + 1, none⟩ = some (f (i * 10 + 1)) ∧ w3.cell? ⟨gsb, i * 10 + 2, none⟩ = some (f (i * 10 + 2)) ∧ w3.cell? ⟨gsb, i * 10 + 3, none⟩ = some (f (i * 10 + 3)) ∧ w3.cell? ⟨gsb, i * 10 + 4, none⟩ = some (f (i * 10 + 4)) ∧
     w3.cell? ⟨gsb, i * 10 + 5, none⟩ = some (f (i * 10 + 5)) ∧ w3.cell? ⟨gsb, i * 10 + 6, none⟩ = some (f (i * 10 + 6)) ∧ w3.cell? ⟨gsb, i * 10 + 7, none⟩ = some (f (i * 10 + 7)) ∧ w3.cell? ⟨gsb, i * 10 + 8, none⟩ = some (f (i * 10 + 8)) ∧ w3.cell? ⟨gsb, i * 10 + 9, none⟩ = some (f (i * 10 + 9))) ∧
    (w3.frozen? ⟨gsb, i * 10, none⟩ = false ∧ w3.frozen? ⟨gsb, i * 10 + 1, none⟩ = false ∧ w3.frozen? ⟨gsb, i * 10 + 2, none⟩ = false ∧ w3.frozen? ⟨gsb, i * 10 + 3, none⟩ = false ∧ w3.frozen? ⟨gsb, i * 10 + 4, none⟩ = false ∧
     w3.frozen? ⟨gsb, i * 10 + 5, none⟩ = false ∧ w3.frozen? ⟨gsb, i * 10 + 6, none⟩ = false ∧ w3.frozen? ⟨gsb, i * 10 + 7, none⟩ = false ∧ w3.frozen? ⟨gsb, i * 10 + 8, none⟩ = false ∧ w3.frozen? ⟨gsb, i * 10 + 9, none⟩ = false) ∧
    w3.cell? ⟨g7, 0, none⟩ = some v0 ∧ w3.cell? ⟨g7, 1, none⟩ = some v1 ∧ w3.cell? ⟨g7, 2, none⟩ = some v2 := by
  have hg := grownBy_trans (grown_left' hgr) hgr2
  have q := rowIs_grown hf hg (by simp)
  have lg : g7 < wx.heap.size := World.block_lt_of_cell? wx _ x0
  have hc : ∀ (o : Nat) (v : Value), wx.cell? ⟨g7, o, none⟩ = some v → w3.cell? ⟨g7, o, none⟩ = some v := fun o v h => by
    rw [World.cell?_of_block (w := wx) (hg.block g7 lg (by simp))]; exact h
  exact ⟨⟨q.cell (by omega), q.cell (by omega), q.cell (by omega), q.cell (by omega), q.cell (by omega), q.cell (by omega), q.cell (by omega), q.cell (by omega), q.cell (by omega), q.cell (by omega)⟩,
    ⟨q.frozen _, q.frozen _, q.frozen _, q.frozen _, q.frozen _, q.frozen _, q.frozen _, q.frozen _, q.frozen _, q.frozen _⟩, hc _ _ x0, hc _ _ x1, hc _ _ x2⟩
theorem three_cells {wx w2 : World} {g7 : Nat} {v0 v1 v2 : Value} (hgr : wx.drew.grownBy w2 none) (x0 : wx.cell? ⟨g7, 0, none⟩ = some v0) (x1 : wx.cell? ⟨g7, 1, none⟩ = some v1) (x2 : wx.cell? ⟨g7, 2, none⟩ = some v2) :
    w2.cell? ⟨g7, 0, none⟩ = some v0 ∧ w2.cell? ⟨g7, 1, none⟩ = some v1 ∧ w2.cell? ⟨g7, 2, none⟩ = some v2 := by
  have hg := grown_left' hgr
  have lg : g7 < wx.heap.size := World.block_lt_of_cell? wx _ x0
  have hc : ∀ (o : Nat) (v : Value), wx.cell? ⟨g7, o, none⟩ = some v → w2.cell? ⟨g7, o, none⟩ = some v := fun o v h => by
    rw [World.cell?_of_block (w := wx) (hg.block g7 lg (by simp))]; exact h
  exact ⟨hc _ _ x0, hc _ _ x1, hc _ _ x2⟩
theorem four_cells {wx w2 : World} {b o : Nat} {v0 v1 v2 v3 : Value} (hgr : wx.drew.grownBy w2 none) (x0 : wx.cell? ⟨b, o, none⟩ = some v0) (x1 : wx.cell? ⟨b, o + 1, none⟩ = some v1) (x2 : wx.cell? ⟨b, o + 2, none⟩ = some v2) (x3 : wx.cell? ⟨b, o + 3, none⟩ = some v3) :
    w2.cell? ⟨b, o, none⟩ = some v0 ∧ w2.cell? ⟨b, o + 1, none⟩ = some v1 ∧ w2.cell? ⟨b, o + 2, none⟩ = some v2 ∧ w2.cell? ⟨b, o + 3, none⟩ = some v3 := by
  have hg := grown_left' hgr
  have lg : b < wx.heap.size := World.block_lt_of_cell? wx _ x0
  have hc : ∀ (o : Nat) (v : Value), wx.cell? ⟨b, o, none⟩ = some v → w2.cell? ⟨b, o, none⟩ = some v := fun o v h => by
    rw [World.cell?_of_block (w := wx) (hg.block b lg (by simp))]; exact h
  exact ⟨hc _ _ x0, hc _ _ x1, hc _ _ x2, hc _ _ x3⟩
theorem ten_far {w3 : World} {gsb o g7 : Nat} {u0 u1 u2 u3 u4 u5 u6 u7 u8 u9 v0 v1 v2 : Value} (hne : gsb ≠ g7) (x0 : w3.cell? ⟨g7, 0, none⟩ = some v0) (x1 : w3.cell? ⟨g7, 1, none⟩ = some v1) (x2 : w3.cell? ⟨g7, 2, none⟩ = some v2) :
    ((((((((((w3.setCell ⟨gsb, o, none⟩ u0).setCell ⟨gsb, o + 1, none⟩ u1).setCell ⟨gsb, o + 2, none⟩ u2).setCell ⟨gsb, o + 3, none⟩ u3).setCell ⟨gsb, o + 4, none⟩ u4).setCell ⟨gsb, o + 5, none⟩ u5).setCell ⟨gsb, o + 6, none⟩ u6).setCell ⟨gsb, o + 7, none⟩ u7).setCell ⟨gsb, o + 8, none⟩ u8).setCell ⟨gsb, o + 9, none⟩ u9).cell? ⟨g7, 0, none⟩ = some v0 ∧
    ((((((((((w3.setCell ⟨gsb, o, none⟩ u0).setCell ⟨gsb, o + 1, none⟩ u1).setCell ⟨gsb, o + 2, none⟩ u2).setCell ⟨gsb, o + 3, none⟩ u3).setCell ⟨gsb, o + 4, none⟩ u4).setCell ⟨gsb, o + 5, none⟩ u5).setCell ⟨gsb, o + 6, none⟩ u6).setCell ⟨gsb, o + 7, none⟩ u7).setCell ⟨gsb, o + 8, none⟩ u8).setCell ⟨gsb, o + 9, none⟩ u9).cell? ⟨g7, 1, none⟩ = some v1 ∧
    ((((((((((w3.setCell ⟨gsb, o, none⟩ u0).setCell ⟨gsb, o + 1, none⟩ u1).setCell ⟨gsb, o + 2, none⟩ u2).setCell ⟨gsb, o + 3, none⟩ u3).setCell ⟨gsb, o + 4, none⟩ u4).setCell ⟨gsb, o + 5, none⟩ u5).setCell ⟨gsb, o + 6, none⟩ u6).setCell ⟨gsb, o + 7, none⟩ u7).setCell ⟨gsb, o + 8, none⟩ u8).setCell ⟨gsb, o + 9, none⟩ u9).cell? ⟨g7, 2, none⟩ = some v2 := by
  have h : ∀ (q : Nat) (v : Value), w3.cell? ⟨g7, q, none⟩ = some v → ((((((((((w3.setCell ⟨gsb, o, none⟩ u0).setCell ⟨gsb, o + 1, none⟩ u1).setCell ⟨gsb, o + 2, none⟩ u2).setCell ⟨gsb, o + 3, none⟩ u3).setCell ⟨gsb, o + 4, none⟩ u4).setCell ⟨gsb, o + 5, none⟩ u5).setCell ⟨gsb, o + 6, none⟩ u6).setCell ⟨gsb, o + 7, none⟩ u7).setCell ⟨gsb, o + 8, none⟩ u8).setCell ⟨gsb, o + 9, none⟩ u9).cell? ⟨g7, q, none⟩ = some v := fun q v hv => by
    simp only [World.cell?_setCell_far _ _ _ _ (show (⟨gsb, _, none⟩ : Addr).block ≠ (⟨g7, q, none⟩ : Addr).block from hne)]
    exact hv
  exact ⟨h _ _ x0, h _ _ x1, h _ _ x2⟩
end Go.Proofs.Qxb6602790a
