import Derived.Test.Qxb6602790aSFill
namespace Go.Proofs.Qxb6602790a
open Go.RowKit Go.Deep SLaw

theorem Built.over {wc ws wr : World} {B sb m1 m2 : Nat} {D : Dat} {X : Adr} {j : Nat} {col : Nat → Nat} {st : List Sto} (h : Built wc ws B sb m1 m2 D X j col st) (hb : Below ws.heap.size ws wr) : Built wc wr B sb m1 m2 D X j col st :=
  h.grown ⟨hb.os, hb.tape, hb.output, hb.size, fun k hk _ => hb.block k hk⟩
theorem below_none {w w' : World} (h : w.grownBy w' none) : Below w.heap.size w w' := ⟨h.os, h.tape, h.output, h.size, fun k hk => h.block k hk (by simp)⟩
theorem Reads.later {w w' : World} {p : Option Addr} {n : Nat} {D : Dat} {X : Adr} (h : Reads w p n D X) (hg : w.grownBy w' none) : Reads w' p n D X := h.below (below_none hg)
theorem StoAt.later {w w' : World} {col : Nat → Nat} {D : Dat} {X : Adr} {j : Nat} {s : Sto} (h : StoAt w col D X j s) (hg : w.grownBy w' none) : StoAt w' col D X j s := h.turn (Turn.of_none hg) (fun _ _ => rfl)

theorem PRows.atF {ws wr : World} {E cf cu m : Nat} {F : List (K × R)} {u : Nat} {U : List (K × R)} (h : PRows ws wr E cf cu m F u U) {r : Nat} {x : K × R} (hx : F[r]? = some x) :
    wr.cell? ⟨E, r, none⟩ = some (.string x.1.1) ∧ wr.cell? ⟨E + 1, r, none⟩ = some (.string x.1.2) ∧ wr.cell? ⟨E + 2, r, none⟩ = some (.int .i64 (x.2.1 : Int)) ∧ wr.cell? ⟨E + 3, r, none⟩ = some (.int .i64 (x.2.2 : Int)) := by
  have hl : r < m := by rw [← h.lenF]; exact (List.getElem?_eq_some_iff.1 hx).1
  rw [h.t.cell hl, h.i.cell hl, h.s.cell hl, h.g.cell hl]
  simp [vt, vi, vs, vg, hx]
theorem PRows.atU {ws wr : World} {E cf cu m : Nat} {F : List (K × R)} {u : Nat} {U : List (K × R)} (h : PRows ws wr E cf cu m F u U) {r : Nat} {x : K × R} (hx : U[r]? = some x) :
    wr.cell? ⟨E + 4, r, none⟩ = some (.string x.1.1) ∧ wr.cell? ⟨E + 5, r, none⟩ = some (.int .i64 (x.2.1 : Int)) ∧ wr.cell? ⟨E + 6, r, none⟩ = some (.int .i64 (x.2.2 : Int)) := by
  have hl : r < u := by rw [← h.lenU]; exact (List.getElem?_eq_some_iff.1 hx).1
  rw [h.ut.cell hl, h.us.cell hl, h.ug.cell hl]
  simp [vt, vs, vg, hx]

/-- None of the first r listings is at y's key. -/
def Fresh (L : List (K × R)) (r : Nat) (k : K) : Prop := ∀ i x, i < r → L[i]? = some x → x.1 ≠ k
theorem Fresh.zero (L : List (K × R)) (k : K) : Fresh L 0 k := fun i x h => absurd h (by omega)
theorem Fresh.succ {L : List (K × R)} {r : Nat} {k : K} (h : Fresh L r k) {x : K × R} (hx : L[r]? = some x) (hne : x.1 ≠ k) : Fresh L (r + 1) k := fun i y hi hy => by
  by_cases e : i = r
  · subst e
    rw [hx] at hy
    injection hy with hy
    rw [← hy]
    exact hne
  · exact h i y (by omega) hy
theorem Count.old' {L : List (K × R)} {k n : Nat} (h : Count L k n) {y : K × R} (hy : L[k]? = some y) {i : Nat} {x : K × R} (hx : L[i]? = some x) (hi : i < k) (e : x.1 = y.1) : Count L (k + 1) n := by
  obtain ⟨hk, rfl⟩ := List.getElem?_eq_some_iff.1 hy
  obtain ⟨hil, rfl⟩ := List.getElem?_eq_some_iff.1 hx
  exact h.old hk ⟨i, hil, hi, e⟩
theorem Count.new' {L : List (K × R)} {k n : Nat} (h : Count L k n) {y : K × R} (hy : L[k]? = some y) (hf : Fresh L k y.1) : Count L (k + 1) (n + 1) ∧ refs (L.take k) y.1 = [] := by
  obtain ⟨hk, rfl⟩ := List.getElem?_eq_some_iff.1 hy
  exact h.new hk (fun i hi hik => hf i L[i] hik (List.getElem?_eq_getElem hi))
theorem refs_hit' {L : List (K × R)} {m : Nat} {x : K × R} (hx : L[m]? = some x) {k : K} (e : x.1 = k) :
    (refs (L.take (m + 1)) k).length = (refs (L.take m) k).length + 1 ∧ (refs (L.take m) k).length < (refs L k).length ∧ (refs L k)[(refs (L.take m) k).length]? = some x.2 := by
  obtain ⟨hm, rfl⟩ := List.getElem?_eq_some_iff.1 hx
  exact refs_hit hm e
theorem refs_miss' {L : List (K × R)} {m : Nat} {x : K × R} (hx : L[m]? = some x) {k : K} (e : x.1 ≠ k) : refs (L.take (m + 1)) k = refs (L.take m) k := by
  obtain ⟨hm, rfl⟩ := List.getElem?_eq_some_iff.1 hx
  exact refs_miss hm e
theorem TwoRows.at_ {w w' : World} {rs : List R} {b1 b2 : Nat} (h : TwoRows w rs rs.length b1 b2) (hg : w.grownBy w' none) {c : Nat} {x : R} (hx : rs[c]? = some x) : w'.cell? ⟨b1, c, none⟩ = some (.int .i64 (x.1 : Int)) ∧ w'.cell? ⟨b2, c, none⟩ = some (.int .i64 (x.2 : Int)) := by
  obtain ⟨hl, e⟩ := List.getElem?_eq_some_iff.1 hx
  have e2 : rs.getD c (0, 0) = x := by rw [List.getD_eq_getElem?_getD, hx]; rfl
  have h1 := h.sets c hl
  have h2 := h.grants c hl
  rw [e2] at h1 h2
  exact ⟨(hg.cell_far _ (World.block_lt_of_cell? w _ h1) (by simp)).trans h1, (hg.cell_far _ (World.block_lt_of_cell? w _ h2) (by simp)).trans h2⟩

/-- What the law reads of the shelf, set by set. -/
theorem set_read {w : World} {B sb m1 m2 : Nat} {col : Nat → Nat} {st : List Sto} {F U : List (K × R)} (h : Shelf w B sb m1 m2 col st F U) {D : Dat} {X : Adr} {j : Nat} {s : Sto} (hj : st[j]? = some s) (hs : StoAt w col D X j s) :
    Calls Try.prog 30 #[.pointer (some ⟨sb, 0, none⟩), .int .i64 (j : Int)] w fun e w' => e = .returned (.tuple #[.int .i64 (D.nb j), .int .i64 (D.na j), .int .i64 (D.dp j), .slice s.lp (D.ln j) s.lc, .int .i64 (D.gn j : Int)]) ∧ w.grownBy w' none := by
  have := shelfSet_w h j s hj
  rw [hs.nb, hs.na, hs.dp, hs.ln, hs.gn] at this
  exact this
/-- All keys are short. -/
def Keys1M (L : List (K × R)) : Prop := ∀ (i : Nat) (x : K × R), L[i]? = some x → x.1.1.size ≤ 1048576 ∧ x.1.2.size ≤ 1048576
theorem keysF {D : Dat} {n : Nat} (hL : Lens D n) (h : Small D n) : Keys1M (allF D n) := fun i x hx => by
  have hm := List.mem_of_getElem? hx
  unfold allF at hm
  obtain ⟨j, hj, hm⟩ := List.mem_flatMap.1 hm
  unfold upF at hm
  obtain ⟨i', hi', hm⟩ := List.mem_flatMap.1 hm
  rw [List.mem_range] at hj hi'
  unfold gF at hm
  split at hm
  · cases hm
  · obtain ⟨id, hid', rfl⟩ := List.mem_map.1 hm
    have hs := (h j hj).2.2 i' hi'
    refine ⟨hs.1, ?_⟩
    obtain ⟨q, hq, e⟩ := List.mem_iff_getElem.1 hid'
    have := hs.2.2 q (by rw [← hL j hj i' hi']; exact hq)
    rw [getD_eq hq, e] at this
    exact this
theorem keysU {D : Dat} {n : Nat} (h : Small D n) : ∀ (i : Nat) (x : K × R), (allU D n)[i]? = some x → x.1.1.size ≤ 1048576 ∧ x.1.2 = ByteArray.empty := fun i x hx => by
  have hm := List.mem_of_getElem? hx
  unfold allU at hm
  obtain ⟨j, hj, hm⟩ := List.mem_flatMap.1 hm
  unfold upU at hm
  obtain ⟨i', hi', hm⟩ := List.mem_flatMap.1 hm
  rw [List.mem_range] at hj hi'
  unfold gU at hm
  split at hm
  · rw [List.mem_singleton] at hm
    subst hm
    exact ⟨((h j hj).2.2 i' hi').1, rfl⟩
  · cases hm

/-- The function's text from its region r on. -/
def dropTo (r : Nat) : Code → Code
  | .seq (.region id ops b) y => if id = r then .seq (.region id ops b) y else dropTo r y
  | .seq _ y => dropTo r y
  | c => c
/-- What the law is to leave. -/
def Done (w0 : World) (e : Ending) (w' : World) : Prop := e = .returned (.bool true) ∧ Below w0.heap.size w0 w'
theorem Done.of {w0 wF w' : World} (h : Below w0.heap.size w0 wF) (hg : wF.grownBy w' none) : Below w0.heap.size w0 w' := h.grown hg h.size (fun k e => by cases e)
end Go.Proofs.Qxb6602790a
