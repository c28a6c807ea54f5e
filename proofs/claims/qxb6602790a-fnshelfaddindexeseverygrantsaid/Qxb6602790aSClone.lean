import Derived.Test.Qxb6602790aSData
import Derived.Deep.RegionHeld3
import Derived.Deep.DrawnRows
import Derived.Below
namespace Go.Proofs.Qxb6602790a
open Go.RowKit Go.Deep
attribute [local go_sem ↓] Go.wp_at_zero Go.wp_at_succ

/-- A copy of a list of strings, nil just if the list is. -/
def Copied2 (w : World) (ss : List ByteArray) (n : Nat) (src : Option Addr) (e : Ending) (w' : World) : Prop :=
  ∃ (p : Option Addr) (c : Nat), e = .returned (.slice p n c) ∧ Strs w' p n ss ∧ w.grownBy w' none ∧ (∀ b off, p = some ⟨b, off, none⟩ → w.heap.size ≤ b ∧ b < w'.heap.size) ∧ (p = none → n = 0 ∧ c = 0) ∧ (p = none ↔ src = none)

set_option maxHeartbeats 4000000 in
set_option maxRecDepth 100000 in
theorem clone2_w (p : Option Addr) (n c : Nat) (ss : List ByteArray) (w : World) (h : Strs w p n ss) (hp : p = none → n = 0 ∧ c = 0) (hn : n ≤ 1048576) :
    Calls Try.prog 10 #[.slice p n c] w fun e w' => Copied2 w ss n p e w' := by
  cases p with
  | none =>
    obtain ⟨rfl, rfl⟩ := hp rfl
    have hq := fun w => Lib.run_eql_slice_nil (P := Try.prog) w 22 9 none 0 0 0 0 Try.underlying22
    have HL := hid h.len
    clear h
    go_enter Try.func10, Try.ntmps10
    go_wp2
    go_ret
    exact ⟨none, 0, rfl, ⟨HL.out, fun j hj => absurd hj (by omega)⟩, grownBy_refl _ _, (fun b off e => by cases e), fun _ => ⟨rfl, rfl⟩, Iff.rfl⟩
  | some ad =>
    have hq := fun w => Lib.run_eql_slice_nil (P := Try.prog) w 22 9 (some ad) n c 0 0 Try.underlying22
    have hmk := run_make_row' (P := Try.prog) 22 9 (.string ByteArray.empty) 16 Try.underlying22 Try.info9 rfl .i64 .i64 n (by omega) (by omega)
    have hsrc : ∀ j v, (ss.map Value.string)[j]? = some v → w.cell? (ad.add j) = some v := by
      intro j v hv
      rw [List.getElem?_map] at hv
      obtain ⟨s, hs, rfl⟩ := Option.map_eq_some_iff.1 hv
      obtain ⟨hj, e⟩ := List.getElem?_eq_some_iff.1 hs
      obtain ⟨b, off, hpe, hc⟩ := h.at_ j (by rw [← h.len]; exact hj)
      cases hpe
      rw [addr_plain, hc j (by rw [← h.len]; exact hj), getD_eq hj, e]
    have hcp := run_copy_fresh Try.prog w 22 9 (.string ByteArray.empty) n c ad (ss.map Value.string) Try.underlying22 Try.size9 (by rw [List.length_map]; exact h.len) hsrc
      (by intro v hv; obtain ⟨s, _, rfl⟩ := List.mem_map.1 hv; rfl) 3
    have HL := hid h.len
    clear h hsrc
    go_enter Try.func10, Try.ntmps10
    go_wp2
    go_ret
    refine ⟨some ⟨w.heap.size, 0, none⟩, n, rfl, ⟨HL.out, fun j hj => ⟨w.heap.size, 0, rfl, fun i hi => ?_⟩⟩, World.grownBy_alloc w _ none, fun b off e => ?_, (fun e => by cases e), ⟨(fun e => by cases e), (fun e => by cases e)⟩⟩
    · have hr := rowIs_of_list w 9 n (ss.map Value.string) (by rw [List.length_map]; exact HL.out) (fun i => .string (ss.getD i ByteArray.empty)) (fun i hi => by
        rw [List.getElem?_map, List.getElem?_eq_getElem (by rw [HL.out]; exact hi), getD_eq (by rw [HL.out]; exact hi)]; rfl)
      rw [Nat.zero_add]
      exact hr.cell hi
    · simp only [Option.some.injEq, Addr.mk.injEq] at e
      obtain ⟨rfl, _⟩ := e
      exact ⟨Nat.le_refl _, by rw [nblk_alloc]; omega⟩

/-- 'make([]T, n)' at a struct type. -/
theorem run_make_multi {P : Program} (t e : TypeId) (z : Value) (size bytes : Nat) (ht : P.underlying t = some (.slice e)) (hinfo : (P.info? e).map (fun i => (i.zero, i.size, i.bytes)) = some (some z, size, bytes)) (zc : Array Value) (hzc : z.cells = zc)
    (n : Nat) (hbytes : bytes * n ≤ 281474976710656) (h63 : n ≤ 9223372036854775807) (w : World) :
    (Instr.makeSlice t (.int .i64 (n : Int)) (.int .i64 (n : Int))).run P w = .ok (.slice (some ⟨w.heap.size, 0, none⟩) n n) (w.alloc (.cells (madeCells zc (n * size)) e)) := by
  obtain ⟨i, hi, hzz⟩ := Option.map_eq_some_iff.1 hinfo
  simp only [Prod.mk.injEq] at hzz
  obtain ⟨hz, hs, hb⟩ := hzz
  have hb' : (i.bytes : Int) * (n : Int) ≤ 281474976710656 := by
    have h : ((i.bytes * n : Nat) : Int) ≤ 281474976710656 := by rw [hb]; omega
    rwa [Int.natCast_mul] at h
  have hr := run_make (P := P) w t e i z ht hi hz .i64 .i64 n n (by omega) (by omega) hb' (by omega)
  simp only [Int.toNat_natCast, hs, hzc] at hr
  exact hr
theorem rowIs_madeM (w : World) (zc : Array Value) (N : Nat) (t : TypeId) : ∃ f, (w.alloc (.cells (madeCells zc N) t)).rowIs w.heap.size t N f := by
  have h := World.rowIs_alloc w (madeCells zc N) t (fun q => (madeCells zc N).getD q undef) (fun i hi => by
    simp only [Array.getD_eq_getD_getElem?]
    rw [Array.getElem?_eq_getElem hi]; rfl)
  rw [size_madeCells] at h
  exact ⟨_, h⟩

theorem Try.info48 : (Try.prog.info? 48).map (fun i => (i.zero, i.size, i.bytes)) = some (some (.agg #[.string ByteArray.empty, .bool false, .slice none 0 0]), 3, 48) := by kernel_rfl
theorem Try.info46 : (Try.prog.info? 46).map (fun i => (i.zero, i.size, i.bytes)) = some (some (.agg #[.int .i64 0, .int .i64 0, .int .i64 0, .slice none 0 0, .slice none 0 0]), 5, 72) := by kernel_rfl

theorem grown_left' {x y : World} {r : Option Nat} (h : x.drew.grownBy y r) : x.grownBy y r := ⟨h.os, h.tape, h.output, h.size, h.block⟩
theorem Strs.drew {w : World} {p : Option Addr} {n : Nat} {ss : List ByteArray} (h : Strs w p n ss) : Strs w.drew p n ss := ⟨h.len, h.at_⟩

/-- A grant's copy. -/
def GrAt (w : World) (base : Nat) (D : Dat) (j i : Nat) (f : Nat → Value) : Prop :=
  f (i * 3) = .string (D.t j i) ∧ f (i * 3 + 1) = .bool (D.a j i) ∧ ∃ ip ic, f (i * 3 + 2) = .slice ip (D.inn j i) ic ∧ Strs w ip (D.inn j i) (D.is j i) ∧ (∀ b off, ip = some ⟨b, off, none⟩ → base ≤ b) ∧ (ip = none → D.inn j i = 0 ∧ ic = 0)
theorem GrAt.kept {w w' : World} {base : Nat} {D : Dat} {j i : Nat} {f g : Nat → Value} {row : Option Nat} (h : GrAt w base D j i f) (hg : w.grownBy w' row) (hr : ∀ b, row = some b → b < base) (hf : ∀ q, q < 3 → g (i * 3 + q) = f (i * 3 + q)) : GrAt w' base D j i g := by
  obtain ⟨h1, h2, ip, ic, h3, h4, h5, h6⟩ := h
  refine ⟨(hf 0 (by omega)).trans h1, (hf 1 (by omega)).trans h2, ip, ic, (hf 2 (by omega)).trans h3, h4.kept hg (fun b off e e2 => ?_), h5, h6⟩
  have := hr b e2.symm
  have := h5 b off e
  omega

/-- The row of a set's grants, filled to i. -/
structure GsRow (w1 wr : World) (gsb gn : Nat) (D : Dat) (j i : Nat) : Prop where
  row : ∃ f, wr.rowIs gsb 48 (gn * 3) f ∧ ∀ i', i' < i → GrAt wr (gsb + 1) D j i' f
  grown : w1.grownBy wr (some gsb)
  lt : gsb < w1.heap.size

theorem GsRow.alloc {w1 wr : World} {gsb gn : Nat} {D : Dat} {j i : Nat} (h : GsRow w1 wr gsb gn D j i) (o : Obj) : GsRow w1 (wr.alloc o) gsb gn D j i := by
  obtain ⟨f, hr, hf⟩ := h.row
  exact ⟨⟨f, hr.alloc o, fun i' hi' => (hf i' hi').kept (World.grownBy_alloc wr o none) (fun b e => by cases e) (fun _ _ => rfl)⟩, grownBy_alloc' h.grown o, h.lt⟩
theorem GsRow.step {w1 wr w2 : World} {gsb gn : Nat} {D : Dat} {j i : Nat} (h : GsRow w1 wr gsb gn D j i) (hg : wr.grownBy w2 none) (hi : i < gn) {ip : Option Addr} {ic : Nat} (hs : Strs w2 ip (D.inn j i) (D.is j i)) (hb : ∀ b off, ip = some ⟨b, off, none⟩ → wr.heap.size ≤ b) (hn : ip = none → D.inn j i = 0 ∧ ic = 0) :
    GsRow w1 (((w2.setCell ⟨gsb, i * 3, none⟩ (.string (D.t j i))).setCell ⟨gsb, i * 3 + 1, none⟩ (.bool (D.a j i))).setCell ⟨gsb, i * 3 + 2, none⟩ (.slice ip (D.inn j i) ic)) gsb gn D j (i + 1) := by
  obtain ⟨f, hr, hf⟩ := h.row
  have hsz : gsb < wr.heap.size := Nat.lt_of_lt_of_le h.lt h.grown.size
  have hr2 := ((((rowIs_grown hr hg (by simp)).set (i * 3) (.string (D.t j i))).set (i * 3 + 1) (.bool (D.a j i))).set (i * 3 + 2) (.slice ip (D.inn j i) ic))
  have g3 : w2.grownBy (((w2.setCell ⟨gsb, i * 3, none⟩ (.string (D.t j i))).setCell ⟨gsb, i * 3 + 1, none⟩ (.bool (D.a j i))).setCell ⟨gsb, i * 3 + 2, none⟩ (.slice ip (D.inn j i) ic)) (some gsb) :=
    grownBy_setCell (grownBy_setCell (grownBy_setCell (grownBy_refl _ _) _ _) _ _) _ _
  refine ⟨⟨_, hr2, fun i' hi' => ?_⟩, grownBy_trans (grownBy_trans h.grown (grownBy_none hg)) g3, h.lt⟩
  by_cases e : i' = i
  · subst e
    refine ⟨by simp, by simp, ip, ic, by simp, hs.kept g3 (fun b off e => ?_), fun b off e => ?_, hn⟩
    · have := hb b off e
      simp
      omega
    · have := hb b off e
      omega
  · exact (hf i' (by omega)).kept (grownBy_trans (grownBy_none hg) g3) (fun b e => by injection e with e; omega) (fun q hq => by
      have e1 : i' * 3 + q ≠ i * 3 := by omega
      have e2 : i' * 3 + q ≠ i * 3 + 1 := by omega
      have e3 : i' * 3 + q ≠ i * 3 + 2 := by omega
      simp [e1, e2, e3])

/-- A set's copy. -/
def SetAt (w : World) (base : Nat) (D : Dat) (j : Nat) (f : Nat → Value) : Prop :=
  f (j * 5) = .int .i64 (D.nb j) ∧ f (j * 5 + 1) = .int .i64 (D.na j) ∧ f (j * 5 + 2) = .int .i64 (D.dp j) ∧
  (∃ lp lc, f (j * 5 + 3) = .slice lp (D.ln j) lc ∧ Strs w lp (D.ln j) (D.ls j) ∧ (∀ b off, lp = some ⟨b, off, none⟩ → base ≤ b) ∧ (lp = none → D.ln j = 0 ∧ lc = 0)) ∧
  ∃ gp gc, f (j * 5 + 4) = .slice gp (D.gn j) gc ∧ (gp = none → D.gn j = 0 ∧ gc = 0) ∧ (0 < D.gn j → ∃ b g, gp = some ⟨b, 0, none⟩ ∧ base ≤ b ∧ w.rowIs b 48 (D.gn j * 3) g ∧ ∀ i, i < D.gn j → GrAt w base D j i g)
theorem SetAt.kept {w w' : World} {base : Nat} {D : Dat} {j : Nat} {f f' : Nat → Value} {row : Option Nat} (h : SetAt w base D j f) (hg : w.grownBy w' row) (hr : ∀ b, row = some b → b < base) (hf : ∀ q, q < 5 → f' (j * 5 + q) = f (j * 5 + q)) : SetAt w' base D j f' := by
  obtain ⟨h1, h2, h3, ⟨lp, lc, h4, h5, h6, h7⟩, gp, gc, h8, h9, h10⟩ := h
  refine ⟨(hf 0 (by omega)).trans h1, (hf 1 (by omega)).trans h2, (hf 2 (by omega)).trans h3, ⟨lp, lc, (hf 3 (by omega)).trans h4, h5.kept hg (fun b off e e2 => ?_), h6, h7⟩, gp, gc, (hf 4 (by omega)).trans h8, h9, fun hp => ?_⟩
  · have := hr b e2.symm
    have := h6 b off e
    omega
  · obtain ⟨b, g, e, hb, hrow, hall⟩ := h10 hp
    exact ⟨b, g, e, hb, rowIs_grown hrow hg (fun e2 => by have := hr b e2.symm; omega), fun i hi => (hall i hi).kept hg hr (fun _ _ => rfl)⟩

/-- The row of the sets' copies, filled to j. -/
structure CsRow (w1 wr : World) (cb n : Nat) (D : Dat) (j : Nat) : Prop where
  row : ∃ f, wr.rowIs cb 46 (n * 5) f ∧ ∀ j', j' < j → SetAt wr (cb + 1) D j' f
  grown : w1.grownBy wr (some cb)
  lt : cb < w1.heap.size

theorem CsRow.later {w1 wr w2 : World} {cb n : Nat} {D : Dat} {j : Nat} (h : CsRow w1 wr cb n D j) (hg : wr.grownBy w2 none) : CsRow w1 w2 cb n D j := by
  obtain ⟨f, hr, hf⟩ := h.row
  exact ⟨⟨f, rowIs_grown hr hg (by simp), fun i' hi' => (hf i' hi').kept hg (fun b e => by cases e) (fun _ _ => rfl)⟩, grownBy_trans h.grown (grownBy_none hg), h.lt⟩
theorem CsRow.step {w1 wr w2 : World} {cb n : Nat} {D : Dat} {j : Nat} (h : CsRow w1 wr cb n D j) (hg : wr.grownBy w2 none) {lp : Option Addr} {lc : Nat} (hs : Strs w2 lp (D.ln j) (D.ls j)) (hb : ∀ b off, lp = some ⟨b, off, none⟩ → wr.heap.size ≤ b) (hn : lp = none → D.ln j = 0 ∧ lc = 0)
    {gp : Option Addr} {gc : Nat} (h9 : gp = none → D.gn j = 0 ∧ gc = 0) (h10 : 0 < D.gn j → ∃ b g, gp = some ⟨b, 0, none⟩ ∧ cb + 1 ≤ b ∧ w2.rowIs b 48 (D.gn j * 3) g ∧ ∀ i, i < D.gn j → GrAt w2 (cb + 1) D j i g) :
    CsRow w1 (((((w2.setCell ⟨cb, j * 5, none⟩ (.int .i64 (D.nb j))).setCell ⟨cb, j * 5 + 1, none⟩ (.int .i64 (D.na j))).setCell ⟨cb, j * 5 + 2, none⟩ (.int .i64 (D.dp j))).setCell ⟨cb, j * 5 + 3, none⟩ (.slice lp (D.ln j) lc)).setCell ⟨cb, j * 5 + 4, none⟩ (.slice gp (D.gn j) gc)) cb n D (j + 1) := by
  obtain ⟨f, hr, hf⟩ := h.row
  have hsz : cb < wr.heap.size := Nat.lt_of_lt_of_le h.lt h.grown.size
  have hr2 := ((((((rowIs_grown hr hg (by simp)).set (j * 5) (.int .i64 (D.nb j))).set (j * 5 + 1) (.int .i64 (D.na j))).set (j * 5 + 2) (.int .i64 (D.dp j))).set (j * 5 + 3) (.slice lp (D.ln j) lc)).set (j * 5 + 4) (.slice gp (D.gn j) gc))
  have g3 : w2.grownBy (((((w2.setCell ⟨cb, j * 5, none⟩ (.int .i64 (D.nb j))).setCell ⟨cb, j * 5 + 1, none⟩ (.int .i64 (D.na j))).setCell ⟨cb, j * 5 + 2, none⟩ (.int .i64 (D.dp j))).setCell ⟨cb, j * 5 + 3, none⟩ (.slice lp (D.ln j) lc)).setCell ⟨cb, j * 5 + 4, none⟩ (.slice gp (D.gn j) gc)) (some cb) :=
    grownBy_setCell (grownBy_setCell (grownBy_setCell (grownBy_setCell (grownBy_setCell (grownBy_refl _ _) _ _) _ _) _ _) _ _) _ _
  have hcb : ∀ b, some cb = some b → b < cb + 1 := fun b e => by injection e with e; omega
  refine ⟨⟨_, hr2, fun i' hi' => ?_⟩, grownBy_trans (grownBy_trans h.grown (grownBy_none hg)) g3, h.lt⟩
  by_cases e : i' = j
  · subst e
    refine ⟨by simp, by simp, by simp, ⟨lp, lc, by simp, hs.kept g3 (fun b off e => ?_), fun b off e => ?_, hn⟩, gp, gc, by simp, h9, fun hp => ?_⟩
    · have := hb b off e
      simp
      omega
    · have := hb b off e
      omega
    · obtain ⟨b, g, e, hb', hrow, hall⟩ := h10 hp
      exact ⟨b, g, e, hb', rowIs_grown hrow g3 (by simp; omega), fun i hi => (hall i hi).kept g3 hcb (fun _ _ => rfl)⟩
  · exact (hf i' (by omega)).kept (grownBy_trans (grownBy_none hg) g3) hcb (fun q hq => by
      have e0 : i' * 5 + q ≠ j * 5 := by omega
      have e1 : i' * 5 + q ≠ j * 5 + 1 := by omega
      have e2 : i' * 5 + q ≠ j * 5 + 2 := by omega
      have e3 : i' * 5 + q ≠ j * 5 + 3 := by omega
      have e4 : i' * 5 + q ≠ j * 5 + 4 := by omega
      simp [e0, e1, e2, e3, e4])
end Go.Proofs.Qxb6602790a
