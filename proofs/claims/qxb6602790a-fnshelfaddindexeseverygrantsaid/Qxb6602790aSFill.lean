import Derived.Test.Qxb6602790aSRows
namespace Go.Proofs.Qxb6602790a
open Go.RowKit Go.Deep SLaw

/-- 'make([]T, 0, n)'. -/
theorem run_make_none {P : Program} (t e : TypeId) (z : Value) (bytes : Nat) (ht : P.underlying t = some (.slice e)) (hinfo : (P.info? e).map (fun i => (i.zero, i.size, i.bytes)) = some (some z, 1, bytes)) (hz1 : z.cells = #[z])
    (n : Nat) (hbytes : bytes * n ≤ 281474976710656) (h63 : n ≤ 9223372036854775807) (w : World) :
    (Instr.makeSlice t (.int .i64 0) (.int .i64 (n : Int))).run P w = .ok (.slice (some ⟨w.heap.size, 0, none⟩) 0 n) (w.alloc (.cells (madeCells #[z] n) e)) := by
  obtain ⟨i, hi, hzz⟩ := Option.map_eq_some_iff.1 hinfo
  simp only [Prod.mk.injEq] at hzz
  obtain ⟨hz, hs, hb⟩ := hzz
  have hb' : (i.bytes : Int) * (n : Int) ≤ 281474976710656 := by
    have h : ((i.bytes * n : Nat) : Int) ≤ 281474976710656 := by rw [hb]; omega
    rwa [Int.natCast_mul] at h
  have hr := run_make (P := P) w t e i z ht hi hz .i64 .i64 0 n (by omega) (by omega) hb' (by omega)
  simp only [Int.toNat_natCast, hs, Nat.mul_one, hz1] at hr
  exact hr

/-- What the law's rows hold. -/
def vt (F : List (K × R)) : List Value := F.map fun x => .string x.1.1
def vi (F : List (K × R)) : List Value := F.map fun x => .string x.1.2
def vs (F : List (K × R)) : List Value := F.map fun x => .int .i64 (x.2.1 : Int)
def vg (F : List (K × R)) : List Value := F.map fun x => .int .i64 (x.2.2 : Int)
theorem vt_push (F : List (K × R)) (x : K × R) : vt (F ++ [x]) = vt F ++ [.string x.1.1] := by simp [vt]
theorem vi_push (F : List (K × R)) (x : K × R) : vi (F ++ [x]) = vi F ++ [.string x.1.2] := by simp [vi]
theorem vs_push (F : List (K × R)) (x : K × R) : vs (F ++ [x]) = vs F ++ [.int .i64 (x.2.1 : Int)] := by simp [vs]
theorem vg_push (F : List (K × R)) (x : K × R) : vg (F ++ [x]) = vg F ++ [.int .i64 (x.2.2 : Int)] := by simp [vg]
/-- A row of the law's own. -/
def ORow (w : World) (b e m cap : Nat) (xs : List Value) : Prop := w.ownsRow b e 1 (.slice (some ⟨b, 0, none⟩) m cap) m xs
theorem ORow.over {w w' : World} {b e m cap : Nat} {xs : List Value} {o : Obj} {b' : Nat} (h : ORow w b e m cap xs) (hg : (w.alloc o).grownBy w' (some b')) (hne : b ≠ b') : ORow w' b e m cap xs :=
  World.ownsRow.kept (World.ownsRow.alloc h o) hg (.inr (by simpa [Value.ownBlock] using hne))
theorem ORow.later {w w' : World} {b e m cap : Nat} {xs : List Value} (h : ORow w b e m cap xs) (hg : w.grownBy w' none) : ORow w' b e m cap xs := World.ownsRow.kept h hg (.inr (by simp [Value.ownBlock]))
theorem ORow.cell {w : World} {b e m cap : Nat} {xs : List Value} (h : ORow w b e m cap xs) {i : Nat} (hi : i < m) : w.cell? ⟨b, i, none⟩ = xs[i]? := World.ownsRow.cellAt h i (by omega)
theorem one_int (i : Int) : ∀ u ∈ [Value.int .i64 i], u.oneCell' = true := by intro u hu; simp at hu; subst hu; rfl
theorem cell_over {w w' : World} {o : Obj} {b' : Nat} {a : Addr} {v : Value} (h : w.cell? a = some v) (hg : (w.alloc o).grownBy w' (some b')) (hne : a.block ≠ b') : w'.cell? a = some v := by
  have hl := World.block_lt_of_cell? w _ h
  rw [World.cell?_of_block (w := w.alloc o) (hg.block a.block (by rw [nblk_alloc]; omega) (by simpa using hne))]
  exact cell_add_alloc h

/-- THE LAW's SEVEN ROWS, from block E on. -/
structure PRows (ws wr : World) (E cf cu m : Nat) (F : List (K × R)) (u : Nat) (U : List (K × R)) : Prop where
  t : ORow wr E 9 m cf (vt F)
  i : ORow wr (E + 1) 9 m cf (vi F)
  s : ORow wr (E + 2) 3 m cf (vs F)
  g : ORow wr (E + 3) 3 m cf (vg F)
  ut : ORow wr (E + 4) 9 u cu (vt U)
  us : ORow wr (E + 5) 3 u cu (vs U)
  ug : ORow wr (E + 6) 3 u cu (vg U)
  below : Below E ws wr
  size : E + 7 ≤ wr.heap.size
section
variable {ws wr : World} {E cf cu m : Nat} {F : List (K × R)} {u : Nat} {U : List (K × R)}
theorem PRows.later {w2 : World} (h : PRows ws wr E cf cu m F u U) (hg : wr.grownBy w2 none) : PRows ws w2 E cf cu m F u U :=
  ⟨h.t.later hg, h.i.later hg, h.s.later hg, h.g.later hg, h.ut.later hg, h.us.later hg, h.ug.later hg, h.below.grown hg (by have := h.size; omega) (fun k e => by cases e), Nat.le_trans h.size hg.size⟩
theorem PRows.lenF (h : PRows ws wr E cf cu m F u U) : F.length = m := by have := h.t.1; simpa [vt] using this
theorem PRows.lenU (h : PRows ws wr E cf cu m F u U) : U.length = u := by have := h.ut.1; simpa [vt] using this
theorem below_over {w w' : World} {o : Obj} {b' : Nat} (h : Below E ws w) (hE : E ≤ w.heap.size) (hg : (w.alloc o).grownBy w' (some b')) (hb : E ≤ b') : Below E ws w' :=
  (h.alloc hE o).grown hg (by rw [nblk_alloc]; omega) (fun k e => by injection e with e; omega)
theorem size_over {w w' : World} {o : Obj} {b' : Nat} (hg : (w.alloc o).grownBy w' (some b')) : w.heap.size ≤ w'.heap.size := by have := hg.size; rw [nblk_alloc] at this; omega

theorem PRows.pushF (h : PRows ws wr E cf cu m F u U) {w1 w2 w3 w4 : World} {o1 o2 o3 o4 : Obj} (x : K × R)
    (g1 : (wr.alloc o1).grownBy w1 (some E)) (n1 : w1.ownsRow E 9 1 (.slice (some ⟨E, 0, none⟩) (m + 1) cf) (m + 1) (vt F ++ [.string x.1.1]))
    (g2 : (w1.alloc o2).grownBy w2 (some (E + 1))) (n2 : w2.ownsRow (E + 1) 9 1 (.slice (some ⟨E + 1, 0, none⟩) (m + 1) cf) (m + 1) (vi F ++ [.string x.1.2]))
    (g3 : (w2.alloc o3).grownBy w3 (some (E + 2))) (n3 : w3.ownsRow (E + 2) 3 1 (.slice (some ⟨E + 2, 0, none⟩) (m + 1) cf) (m + 1) (vs F ++ [.int .i64 (x.2.1 : Int)]))
    (g4 : (w3.alloc o4).grownBy w4 (some (E + 3))) (n4 : w4.ownsRow (E + 3) 3 1 (.slice (some ⟨E + 3, 0, none⟩) (m + 1) cf) (m + 1) (vg F ++ [.int .i64 (x.2.2 : Int)])) :
    PRows ws w4 E cf cu (m + 1) (F ++ [x]) u U := by
  have s1 := size_over g1
  have s2 := size_over g2
  have s3 := size_over g3
  have s4 := size_over g4
  have s0 := h.size
  have r1 : ORow w1 E 9 (m + 1) cf (vt (F ++ [x])) := by rw [vt_push]; exact n1
  have r2 : ORow w2 (E + 1) 9 (m + 1) cf (vi (F ++ [x])) := by rw [vi_push]; exact n2
  have r3 : ORow w3 (E + 2) 3 (m + 1) cf (vs (F ++ [x])) := by rw [vs_push]; exact n3
  have r4 : ORow w4 (E + 3) 3 (m + 1) cf (vg (F ++ [x])) := by rw [vg_push]; exact n4
  exact ⟨((r1.over g2 (by omega)).over g3 (by omega)).over g4 (by omega), (r2.over g3 (by omega)).over g4 (by omega), r3.over g4 (by omega), r4,
    (((h.ut.over g1 (by omega)).over g2 (by omega)).over g3 (by omega)).over g4 (by omega), (((h.us.over g1 (by omega)).over g2 (by omega)).over g3 (by omega)).over g4 (by omega), (((h.ug.over g1 (by omega)).over g2 (by omega)).over g3 (by omega)).over g4 (by omega),
    below_over (below_over (below_over (below_over h.below (by omega) g1 (by omega)) (by omega) g2 (by omega)) (by omega) g3 (by omega)) (by omega) g4 (by omega), by omega⟩
theorem PRows.pushU (h : PRows ws wr E cf cu m F u U) {w1 w2 w3 : World} {o1 o2 o3 : Obj} (x : K × R)
    (g1 : (wr.alloc o1).grownBy w1 (some (E + 4))) (n1 : w1.ownsRow (E + 4) 9 1 (.slice (some ⟨E + 4, 0, none⟩) (u + 1) cu) (u + 1) (vt U ++ [.string x.1.1]))
    (g2 : (w1.alloc o2).grownBy w2 (some (E + 5))) (n2 : w2.ownsRow (E + 5) 3 1 (.slice (some ⟨E + 5, 0, none⟩) (u + 1) cu) (u + 1) (vs U ++ [.int .i64 (x.2.1 : Int)]))
    (g3 : (w2.alloc o3).grownBy w3 (some (E + 6))) (n3 : w3.ownsRow (E + 6) 3 1 (.slice (some ⟨E + 6, 0, none⟩) (u + 1) cu) (u + 1) (vg U ++ [.int .i64 (x.2.2 : Int)])) :
    PRows ws w3 E cf cu m F (u + 1) (U ++ [x]) := by
  have s1 := size_over g1
  have s2 := size_over g2
  have s3 := size_over g3
  have s0 := h.size
  have r1 : ORow w1 (E + 4) 9 (u + 1) cu (vt (U ++ [x])) := by rw [vt_push]; exact n1
  have r2 : ORow w2 (E + 5) 3 (u + 1) cu (vs (U ++ [x])) := by rw [vs_push]; exact n2
  have r3 : ORow w3 (E + 6) 3 (u + 1) cu (vg (U ++ [x])) := by rw [vg_push]; exact n3
  exact ⟨((h.t.over g1 (by omega)).over g2 (by omega)).over g3 (by omega), ((h.i.over g1 (by omega)).over g2 (by omega)).over g3 (by omega), ((h.s.over g1 (by omega)).over g2 (by omega)).over g3 (by omega), ((h.g.over g1 (by omega)).over g2 (by omega)).over g3 (by omega),
    (r1.over g2 (by omega)).over g3 (by omega), r2.over g3 (by omega), r3, below_over (below_over (below_over h.below (by omega) g1 (by omega)) (by omega) g2 (by omega)) (by omega) g3 (by omega), by omega⟩
end
theorem srow_made (w : World) (n : Nat) (hn : n ≤ 8192) : ORow (w.alloc (.cells (madeCells #[.string ByteArray.empty] n) 9)) w.heap.size 9 0 n [] := World.ownsRow_made w _ n (Nat.le_refl _) (by unfold maxLen; omega) (by simp [size_madeCells])
theorem irow_made (w : World) (n : Nat) (hn : n ≤ 8192) : ORow (w.alloc (.cells (madeCells #[.int .i64 0] n) 3)) w.heap.size 3 0 n [] := World.ownsRow_made w _ n (Nat.le_refl _) (by unfold maxLen; omega) (by simp [size_madeCells])
/-- The world once the seven rows are made. -/
def seven (w : World) (s g : Nat) : World :=
  ((((((w.alloc (.cells (madeCells #[.string ByteArray.empty] s) 9)).alloc (.cells (madeCells #[.string ByteArray.empty] s) 9)).alloc (.cells (madeCells #[.int .i64 0] s) 3)).alloc (.cells (madeCells #[.int .i64 0] s) 3)).alloc (.cells (madeCells #[.string ByteArray.empty] g) 9)).alloc (.cells (madeCells #[.int .i64 0] g) 3)).alloc (.cells (madeCells #[.int .i64 0] g) 3)
theorem prows_made (w : World) (s g : Nat) (hs : s ≤ 8192) (hg : g ≤ 8192) : PRows w (seven w s g) w.heap.size s g 0 [] 0 [] := by
  have e1 : (w.alloc (.cells (madeCells #[.string ByteArray.empty] s) 9)).heap.size = w.heap.size + 1 := nblk_alloc _ _
  generalize h1 : w.alloc (.cells (madeCells #[.string ByteArray.empty] s) 9) = w1 at e1
  have a1 := srow_made w s hs
  rw [h1] at a1
  have e2 : (w1.alloc (.cells (madeCells #[.string ByteArray.empty] s) 9)).heap.size = w.heap.size + 2 := by rw [nblk_alloc, e1]
  have a2 := srow_made w1 s hs
  rw [e1] at a2
  generalize h2 : w1.alloc (.cells (madeCells #[.string ByteArray.empty] s) 9) = w2 at e2 a2
  have e3 : (w2.alloc (.cells (madeCells #[.int .i64 0] s) 3)).heap.size = w.heap.size + 3 := by rw [nblk_alloc, e2]
  have a3 := irow_made w2 s hs
  rw [e2] at a3
  generalize h3 : w2.alloc (.cells (madeCells #[.int .i64 0] s) 3) = w3 at e3 a3
  have e4 : (w3.alloc (.cells (madeCells #[.int .i64 0] s) 3)).heap.size = w.heap.size + 4 := by rw [nblk_alloc, e3]
  have a4 := irow_made w3 s hs
  rw [e3] at a4
  generalize h4 : w3.alloc (.cells (madeCells #[.int .i64 0] s) 3) = w4 at e4 a4
  have e5 : (w4.alloc (.cells (madeCells #[.string ByteArray.empty] g) 9)).heap.size = w.heap.size + 5 := by rw [nblk_alloc, e4]
  have a5 := srow_made w4 g hg
  rw [e4] at a5
  generalize h5 : w4.alloc (.cells (madeCells #[.string ByteArray.empty] g) 9) = w5 at e5 a5
  have e6 : (w5.alloc (.cells (madeCells #[.int .i64 0] g) 3)).heap.size = w.heap.size + 6 := by rw [nblk_alloc, e5]
  have a6 := irow_made w5 g hg
  rw [e5] at a6
  generalize h6 : w5.alloc (.cells (madeCells #[.int .i64 0] g) 3) = w6 at e6 a6
  have e7 : (w6.alloc (.cells (madeCells #[.int .i64 0] g) 3)).heap.size = w.heap.size + 7 := by rw [nblk_alloc, e6]
  have a7 := irow_made w6 g hg
  rw [e6] at a7
  generalize h7 : w6.alloc (.cells (madeCells #[.int .i64 0] g) 3) = w7 at e7 a7
  have g1 : w.grownBy w1 none := by rw [← h1]; exact World.grownBy_alloc w _ none
  have g2 : w1.grownBy w2 none := by rw [← h2]; exact World.grownBy_alloc w1 _ none
  have g3 : w2.grownBy w3 none := by rw [← h3]; exact World.grownBy_alloc w2 _ none
  have g4 : w3.grownBy w4 none := by rw [← h4]; exact World.grownBy_alloc w3 _ none
  have g5 : w4.grownBy w5 none := by rw [← h5]; exact World.grownBy_alloc w4 _ none
  have g6 : w5.grownBy w6 none := by rw [← h6]; exact World.grownBy_alloc w5 _ none
  have g7 : w6.grownBy w7 none := by rw [← h7]; exact World.grownBy_alloc w6 _ none
  have hw : seven w s g = w7 := by unfold seven; rw [h1, h2, h3, h4, h5, h6, h7]
  rw [hw]
  have g27 := grownBy_trans (grownBy_trans (grownBy_trans (grownBy_trans (grownBy_trans g2 g3) g4) g5) g6) g7
  have g37 := grownBy_trans (grownBy_trans (grownBy_trans (grownBy_trans g3 g4) g5) g6) g7
  have g47 := grownBy_trans (grownBy_trans (grownBy_trans g4 g5) g6) g7
  have g57 := grownBy_trans (grownBy_trans g5 g6) g7
  have g67 := grownBy_trans g6 g7
  exact ⟨a1.later g27, a2.later g37, a3.later g47, a4.later g57, a5.later g67, a6.later g7, a7, (Below.refl _ _).grown (grownBy_trans g1 g27) (Nat.le_refl _) (fun k e => by cases e), by omega⟩
end Go.Proofs.Qxb6602790a
