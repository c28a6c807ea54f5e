import Derived.WalkKit
import Derived.WalkLawsBesides
import Derived.WalkSpells
import Derived.Below
import Derived.Deep.OwnRows
import Derived.Laws.CopyOwn
namespace Go.Proofs.Qxb6602790a
open Go.RowKit Go.Deep Go.ChangeShapes

theorem cell_add_alloc {w : World} {o : Obj} {a : Addr} {v : Value} (h : w.cell? a = some v) : (w.alloc o).cell? a = some v := by
  rw [World.cell?_alloc_lt w o a (World.block_lt_of_cell? w a h)]; exact h

/-- The last block laid, filled anew. -/
theorem setRow_alloc (w : World) (c d : Array Value) (t : TypeId) : (w.alloc (.cells c t)).setRow w.heap.size d = w.alloc (.cells d t) := by
  show World.setRow { w with heap := w.heap.push (.cells c t) } w.heap.size d = { w with heap := w.heap.push (.cells d t) }
  unfold World.setRow
  congr 1
  apply Array.ext
  · simp
  · intro k h1 h2
    simp only [Array.getElem_modify]
    by_cases e : w.heap.size = k
    · subst e; simp
    · rw [if_neg e]
      have hk : k < w.heap.size := by simp at h2; omega
      simp [Array.getElem_push_lt hk]

/-- 'c := make([]T, len(s)); copy(c, s)': what the copy does. -/
theorem run_copy_fresh (P : Program) (w : World) (T E : TypeId) (z : Value) (n c : Nat) (ad : Addr) (cs : List Value)
    (hu : P.underlying T = some (.slice E)) (hs : (P.info? E).map (·.size) = some 1) (hcs : cs.length = n)
    (hsrc : ∀ j v, cs[j]? = some v → w.cell? (ad.add j) = some v) (h1 : ∀ v ∈ cs, v.oneCell' = true) (ty : TypeId) :
    (Builtin.copy_ #[T, T] ty #[.slice (some ⟨w.heap.size, 0, none⟩) n n, .slice (some ad) n c]).run P (w.alloc (.cells (madeCells #[z] n) E)) = .ok (goInt n) (w.alloc (.cells cs.toArray E)) := by
  have hr := run_copy_row P (w.alloc (.cells (madeCells #[z] n) E)) T T ty E w.heap.size 0 n n ad n c (madeCells #[z] n) E cs hu hs (heap_alloc_new w _) (by rw [hcs]; simp)
    (fun j v h => cell_add_alloc (hsrc j v h)) (by rw [size_madeCells]; omega) h1
  rw [hr, hcs]
  have e : (List.take 0 (madeCells #[z] n).toList ++ cs ++ List.drop (0 + n) (madeCells #[z] n).toList) = cs := by
    rw [List.drop_of_length_le (by simp [size_madeCells])]
    simp
  rw [e, setRow_alloc]

/-- A ROW WHOSE CELLS ARE GIVEN AS A LIST. -/
theorem rowIs_of_list (w : World) (t : TypeId) (n : Nat) (cs : List Value) (hn : cs.length = n) (f : Nat → Value) (hf : ∀ i, i < n → cs[i]? = some (f i)) : (w.alloc (.cells cs.toArray t)).rowIs w.heap.size t n f :=
  ⟨cs.toArray, heap_alloc_new w _, by simpa using hn, fun i hi => by simpa using hf i hi⟩

theorem rowIs_below {B : Nat} {w w' : World} {b : Nat} {t : TypeId} {n : Nat} {f : Nat → Value} (h : w.rowIs b t n f) (hb : Below B w w') (hlt : b < B) : w'.rowIs b t n f := h.of_block (hb.block b hlt)

theorem rowIs_grown {w w' : World} {row : Option Nat} {b : Nat} {t : TypeId} {n : Nat} {f : Nat → Value} (h : w.rowIs b t n f) (hg : w.grownBy w' row) (hne : some b ≠ row) : w'.rowIs b t n f := h.of_block (hg.block b h.lt hne)

theorem grownBy_refl (w : World) (row : Option Nat) : w.grownBy w row := ⟨rfl, rfl, rfl, Nat.le_refl _, fun _ _ _ => rfl⟩
theorem grownBy_trans {a b c : World} {row : Option Nat} (h : a.grownBy b row) (k : b.grownBy c row) : a.grownBy c row :=
  ⟨k.os.trans h.os, k.tape.trans h.tape, k.output.trans h.output, Nat.le_trans h.size k.size, fun i hi hn => (k.block i (Nat.lt_of_lt_of_le hi h.size) hn).trans (h.block i hi hn)⟩
theorem grownBy_drew {a b : World} {row : Option Nat} (h : a.grownBy b row) : a.grownBy b.drew row := ⟨h.os, h.tape, h.output, h.size, h.block⟩
theorem grownBy_setCell {a b : World} {r : Nat} (h : a.grownBy b (some r)) (i : Nat) (v : Value) : a.grownBy (b.setCell ⟨r, i, none⟩ v) (some r) :=
  grownBy_trans h ⟨rfl, rfl, rfl, by rw [nblk_setCell]; exact Nat.le_refl _, fun k _ hn => blk_setCell_other _ _ _ _ (fun e => hn (by rw [e]))⟩
theorem grownBy_alloc' {a b : World} {row : Option Nat} (h : a.grownBy b row) (o : Obj) : a.grownBy (b.alloc o) row := grownBy_trans h (World.grownBy_alloc b o row)
theorem grownBy_none {a b : World} {row : Option Nat} (h : a.grownBy b none) : a.grownBy b row := ⟨h.os, h.tape, h.output, h.size, fun k hk _ => h.block k hk (by simp)⟩
theorem grownBy_of_below {a b : World} {row : Option Nat} (h : Below a.heap.size a b) : a.grownBy b row := ⟨h.os, h.tape, h.output, h.size, fun k hk _ => h.block k hk⟩
theorem addr_plain (b o i : Nat) : (⟨b, o, none⟩ : Addr).add i = ⟨b, o + i, none⟩ := by unfold Addr.add; split <;> simp_all

/-- A slice that came in, its cells at plain addresses. -/
theorem cells_plain {w : World} {ad : Addr} {n : Nat} {g : Nat → Value} (h : ∀ j, j < n → w.cell? (ad.add j) = some (g j)) (hn : 0 < n) :
    ∃ b off, ad = ⟨b, off, none⟩ ∧ b < w.heap.size ∧ ∀ j, j < n → w.cell? ⟨b, off + j, none⟩ = some (g j) := by
  obtain ⟨b, off, spot⟩ := ad
  have hs : spot = none := by simpa [Addr.add] using World.cell?_spot (h 0 hn)
  subst hs
  exact ⟨b, off, rfl, World.block_lt_of_cell? w _ (h 0 hn), fun j hj => by rw [← addr_plain]; exact h j hj⟩

end Go.Proofs.Qxb6602790a
