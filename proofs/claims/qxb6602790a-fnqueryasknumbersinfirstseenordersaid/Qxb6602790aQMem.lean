import Derived.Test.Qxb6602790aQMap
import Derived.Test.Qxb6602790aCompact
import Derived.Deep.AppendLies
namespace Go.Proofs.Qxb6602790a
open Go.RowKit Go.Deep QLaw

/-- THE MEMORY OF ask: what it will hand back (block w.heap.size), its variable 'a' (the next), a.values' row behind them. -/
structure AskMem (w wr : World) (mb : Nat) (wl : Bool) (m : Nat) (zs : List Int) (va : Option Addr) (vc : Nat) : Prop where
  len : zs.length = m
  vals : wr.ownsRow (w.heap.size + 2) 21 1 (.slice va m vc) m (zs.map (Value.int .i32))
  acell : wr.rowIs (w.heap.size + 1) 78 2 (fun i => if i = 0 then .bool wl else .slice va m vc)
  rcell : wr.rowIs w.heap.size 78 2 (fun i => if i = 0 then .bool false else .slice none 0 0)
  grown : w.grownBy wr (some mb)
  old : mb < w.heap.size
  nil : m = 0 → va = none ∧ vc = 0

namespace AskMem
variable {w wr : World} {mb m : Nat} {wl : Bool} {zs : List Int} {va : Option Addr} {vc : Nat}

theorem own_ne (h : AskMem w wr mb wl m zs va vc) {b : Nat} (hb : b < w.heap.size + 2) : some b ≠ (Value.slice va m vc).ownBlock := fun e => by
  have := (h.vals.lt b e.symm).1
  omega

theorem grown_set (h : w.grownBy wr (some mb)) {a : Addr} (ha : w.heap.size ≤ a.block) (v : Value) : w.grownBy (wr.setCell a v) (some mb) :=
  ⟨h.os, h.tape, h.output, by rw [nblk_setCell]; exact h.size, fun k hk hn => (blk_setCell_other _ _ _ _ (by omega)).trans (h.block k hk hn)⟩

/-- A store into one of the two blocks keeps the row of values. -/
theorem vals_set {base : Nat} {v : Value} {n : Nat} {xs : List Value} (h : wr.ownsRow base 21 1 v n xs) {a : Addr} (ha : a.block < base) (u : Value) : (wr.setCell a u).ownsRow base 21 1 v n xs := by
  have hg : wr.grownBy (wr.setCell a u) (some a.block) := ⟨rfl, rfl, rfl, by rw [nblk_setCell]; exact Nat.le_refl _, fun k _ hn => blk_setCell_other _ _ _ _ (fun e => hn (by rw [e]))⟩
  refine h.kept hg ?_
  cases e : v.ownBlock with
  | none => exact .inl rfl
  | some g => exact .inr (fun e2 => by have := (h.lt g e).1; injection e2 with e2; omega)

theorem wild (h : AskMem w wr mb wl m zs va vc) : AskMem w (wr.setCell ⟨w.heap.size + 1, 0, none⟩ (.bool true)) mb true m zs va vc :=
  ⟨h.len, vals_set h.vals (by show w.heap.size + 1 < _; omega) _, (h.acell.set 0 _).congr (fun i _ => by by_cases e : i = 0 <;> simp [e]),
    h.rcell.setOther (by show w.heap.size ≠ w.heap.size + 1; omega) _, grown_set h.grown (by show w.heap.size ≤ w.heap.size + 1; omega) _, h.old, h.nil⟩

theorem turn {wq : World} (h : AskMem w wr mb wl m zs va vc) (hg : wr.grownBy wq (some mb)) : AskMem w wq mb wl m zs va vc :=
  ⟨h.len, h.vals.kept hg (by
      cases e : (Value.slice va m vc).ownBlock with
      | none => exact .inl rfl
      | some g => exact .inr (fun e2 => by have := (h.vals.lt g e).1; have := h.old; injection e2 with e2; omega)),
    rowIs_grown h.acell hg (by have := h.old; simp; omega), rowIs_grown h.rcell hg (by have := h.old; simp; omega), grownBy_trans h.grown hg, h.old, h.nil⟩

theorem push {w4 : World} {o : Obj} {z : Int} {va' : Option Addr} {vc' : Nat} (h : AskMem w wr mb wl m zs va vc) (hg : (wr.alloc o).grownBy w4 (Value.slice va m vc).ownBlock)
    (ho : w4.ownsRow (w.heap.size + 2) 21 1 (.slice va' (m + 1) vc') (m + 1) (zs.map (Value.int .i32) ++ [.int .i32 z])) :
    AskMem w (w4.setCell ⟨w.heap.size + 1, 1, none⟩ (.slice va' (m + 1) vc')) mb wl (m + 1) (zs ++ [z]) va' vc' := by
  refine ⟨by rw [List.length_append, h.len]; rfl, by rw [List.map_append]; exact vals_set ho (by show w.heap.size + 1 < _; omega) _, ?_, ?_, ?_, h.old, fun e => by omega⟩
  · exact ((rowIs_grown (h.acell.alloc o) hg (h.own_ne (by omega))).set 1 _).congr (fun i hi => by
      rcases (show i = 0 ∨ i = 1 by omega) with rfl | rfl <;> simp)
  · exact (rowIs_grown (h.rcell.alloc o) hg (h.own_ne (by omega))).setOther (by show w.heap.size ≠ w.heap.size + 1; omega) _
  · refine grown_set ?_ (by show w.heap.size ≤ w.heap.size + 1; omega) _
    have h1 := grownBy_alloc' h.grown o
    exact ⟨hg.os.trans h1.os, hg.tape.trans h1.tape, hg.output.trans h1.output, Nat.le_trans h1.size hg.size,
      fun k hk hn => (hg.block k (Nat.lt_of_lt_of_le hk h1.size) (h.own_ne (by omega))).trans (h1.block k hk hn)⟩
end AskMem

theorem Query.setCell {w : World} {qb mb : Nat} {ord : List ByteArray} (h : Query w qb mb ord) {a : Addr} (h1 : qb ≠ a.block) (h2 : mb ≠ a.block) (v : Value) : Query (w.setCell a v) qb mb ord :=
  h.kept (row := some a.block) ⟨rfl, rfl, rfl, by rw [nblk_setCell]; exact Nat.le_refl _, fun k _ hn => blk_setCell_other _ _ _ _ (fun e => hn (by rw [e]))⟩ (by simpa using h1) (by simpa using h2)
theorem Query.alloc {w : World} {qb mb : Nat} {ord : List ByteArray} (h : Query w qb mb ord) (o : Obj) : Query (w.alloc o) qb mb ord := h.kept (World.grownBy_alloc w o none) (by simp) (by simp)

/-- The row of values, as the sort wants it. -/
theorem AskMem.sat {w wr : World} {mb m : Nat} {wl : Bool} {zs : List Int} {va : Option Addr} {vc : Nat} (h : AskMem w wr mb wl m zs va vc) (hm : 0 < m) :
    ∃ g, va = some ⟨g, 0, none⟩ ∧ w.heap.size + 2 ≤ g ∧ m ≤ vc ∧ vc ≤ maxLen ∧ SAt wr g vc 0 zs.toArray wr := by
  rcases h.vals.2 with ⟨e, e2⟩ | ⟨g, cap, cur, e, hb, hh, hnc, hcm, hcs, ht⟩
  · omega
  · injection e with e1 e2 e3
    subst e3
    refine ⟨g, e1, hb, hnc, hcm, ⟨⟨fun i => cur.toList.getD i undef, ⟨cur, hh, by omega, fun i hi => ?_⟩, by simp [h.len]; omega, fun i hi => ?_⟩, grownBy_refl _ _⟩⟩
    · show cur[i]? = some (cur.toList.getD i undef)
      rw [List.getD_eq_getElem?_getD, Array.getElem?_toList, Array.getElem?_eq_getElem (by omega)]; rfl
    · have hi' : i < zs.length := by simpa using hi
      show cur.toList.getD (0 + i) undef = _
      have e5 : (cur.toList.take (m * 1))[i]? = (zs.map (Value.int .i32))[i]? := by rw [ht]
      rw [List.getElem?_take, if_pos (by rw [h.len] at hi'; omega), List.getElem?_map, List.getElem?_eq_getElem hi'] at e5
      rw [Nat.zero_add, List.getD_eq_getElem?_getD, e5, getElem!_pos zs.toArray i hi]
      simp
end Go.Proofs.Qxb6602790a
