import Derived.Test.Qxb6602874aBytes
import Derived.Test.Qxb6602874aKahnLaw
import Derived.Maps.AppendAt
import Derived.OwnWalk
namespace Go.Proofs.Qxb6602874a
open Go.RowKit Go.Deep KahnLaw

def ints (l : List Nat) : List Value := l.map fun (i : Nat) => Value.int .i64 (i : Int)

/-- WHILE THE COUNTS AND THE LISTS OF DEPENDENTS ARE MADE. -/
structure Build (w2 wr : World) (n m Bq Bk Bc Bd : Nat) (p P0 : Nat → Bool) (cnt : Nat → Nat) (X : Nat → List Nat) (Va : Nat → Option Addr) (Vc : Nat → Nat) : Prop where
  below : Below w2.heap.size w2 wr
  p : wr.rowIs Bq 4 m (fun i => .bool (p i))
  kahn : wr.rowIs Bk 4 m (fun i => .bool (P0 i))
  cnt : wr.rowIs Bc 3 n (fun i => .int .i64 (cnt i : Int))
  top : wr.rowIs Bd 31 m (fun x => .slice (Va x) (X x).length (Vc x))
  own : ∀ x, x < m → wr.ownsRow (Bd + 1) 3 1 (.slice (Va x) (X x).length (Vc x)) (X x).length (ints (X x))
  apart : ∀ x, x < m → ∀ y, y < m → x ≠ y → (Value.slice (Va x) (X x).length (Vc x)).ownBlock = none ∨ (Value.slice (Va x) (X x).length (Vc x)).ownBlock ≠ (Value.slice (Va y) (X y).length (Vc y)).ownBlock
  o1 : w2.heap.size ≤ Bq
  o2 : Bq < Bk
  o3 : Bk < Bc
  o4 : Bc < Bd

theorem Build.bump {w2 wr : World} {n m Bq Bk Bc Bd : Nat} {p P0 : Nat → Bool} {cnt : Nat → Nat} {X : Nat → List Nat} {Va : Nat → Option Addr} {Vc : Nat → Nat} (h : Build w2 wr n m Bq Bk Bc Bd p P0 cnt X Va Vc) (i : Nat) :
    Build w2 (wr.setCell ⟨Bc, i, none⟩ (.int .i64 ((cnt i : Int) + 1))) n m Bq Bk Bc Bd p P0 (bump cnt i) X Va Vc :=
  have a := h.o1; have b := h.o2; have c := h.o3; have d := h.o4
  ⟨h.below.setCell (by show w2.heap.size ≤ Bc; omega) _, h.p.setOther (by show Bq ≠ Bc; omega) _, h.kahn.setOther (by show Bk ≠ Bc; omega) _,
    (h.cnt.set i _).congr (fun j _ => by by_cases e : j = i <;> simp [KahnLaw.bump, e]), h.top.setOther (by show Bd ≠ Bc; omega) _,
    fun x hx => ownsRow_setCell_below (h.own x hx) (by show Bc < Bd + 1; omega) _, h.apart, h.o1, h.o2, h.o3, h.o4⟩

theorem Build.ge {w2 wr : World} {n m Bq Bk Bc Bd : Nat} {p P0 : Nat → Bool} {cnt : Nat → Nat} {X : Nat → List Nat} {Va : Nat → Option Addr} {Vc : Nat → Nat} (h : Build w2 wr n m Bq Bk Bc Bd p P0 cnt X Va Vc) {x : Nat} (hx : x < m) {k : Nat} (e : (Value.slice (Va x) (X x).length (Vc x)).ownBlock = some k) : Bd + 1 ≤ k ∧ k < wr.heap.size := (h.own x hx).lt k e

/-- 'dependents[d] = append(dependents[d], i)'. -/
theorem Build.push {w2 wr w4 : World} {n m Bq Bk Bc Bd : Nat} {p P0 : Nat → Bool} {cnt : Nat → Nat} {X : Nat → List Nat} {Va : Nat → Option Addr} {Vc : Nat → Nat} (h : Build w2 wr n m Bq Bk Bc Bd p P0 cnt X Va Vc)
    {d i : Nat} (hd : d < m) {o : Obj} {va : Option Addr} {vc : Nat} (hg : (wr.alloc o).grownBy w4 (Value.slice (Va d) (X d).length (Vc d)).ownBlock)
    (ho : w4.ownsRow (Bd + 1) 3 1 (.slice va ((X d).length + 1) vc) ((X d).length + 1) (ints (X d) ++ [.int .i64 (i : Int)]))
    (hl : (Value.slice va ((X d).length + 1) vc).ownBlock = (Value.slice (Va d) (X d).length (Vc d)).ownBlock ∨ (Value.slice va ((X d).length + 1) vc).ownBlock = some (wr.heap.size + 1)) :
    Build w2 (w4.setCell ⟨Bd, d, none⟩ (.slice va ((X d).length + 1) vc)) n m Bq Bk Bc Bd p P0 cnt (push X d i) (fun y => if y = d then va else Va y) (fun y => if y = d then vc else Vc y) := by
  have a := h.o1; have b := h.o2; have c := h.o3; have e := h.o4
  have hge : ∀ k, (Value.slice (Va d) (X d).length (Vc d)).ownBlock = some k → Bd + 1 ≤ k := fun k hk => (h.ge hd hk).1
  have hne : ∀ k, k ≤ Bd → some k ≠ (Value.slice (Va d) (X d).length (Vc d)).ownBlock := fun k hk e => by have := hge k e.symm; omega
  have hsz := h.top.lt
  have key : ∀ y, y ≠ d → Value.slice (if y = d then va else Va y) (KahnLaw.push X d i y).length (if y = d then vc else Vc y) = .slice (Va y) (X y).length (Vc y) := fun y hy => by simp [KahnLaw.push, hy]
  have keyd : Value.slice (if d = d then va else Va d) (KahnLaw.push X d i d).length (if d = d then vc else Vc d) = .slice va ((X d).length + 1) vc := by simp [KahnLaw.push]
  refine ⟨(((h.below.alloc (by have := h.below.size; omega) _).grown hg (by simp; have := h.below.size; omega) (fun k hk => by have := hge k hk; omega)).setCell (by show w2.heap.size ≤ Bd; omega) _),
    (rowIs_grown (h.p.alloc _) hg (hne _ (by omega))).setOther (by show Bq ≠ Bd; omega) _, (rowIs_grown (h.kahn.alloc _) hg (hne _ (by omega))).setOther (by show Bk ≠ Bd; omega) _,
    (rowIs_grown (h.cnt.alloc _) hg (hne _ (by omega))).setOther (by show Bc ≠ Bd; omega) _, ((rowIs_grown (h.top.alloc _) hg (hne _ (Nat.le_refl _))).set d _).congr (fun y _ => ?_), fun y hy => ?_, fun x hx y hy hxy => ?_, h.o1, h.o2, h.o3, h.o4⟩
  · by_cases ey : y = d
    · subst ey; rw [keyd, if_pos rfl]
    · rw [key y ey, if_neg ey]
  · refine ownsRow_setCell_below ?_ (by show Bd < Bd + 1; omega) _
    by_cases ey : y = d
    · subst ey
      rw [keyd]
      have e1 : KahnLaw.push X y i y = X y ++ [i] := by simp [KahnLaw.push]
      rw [e1]
      simpa [ints] using ho
    · rw [key y ey]
      have e1 : KahnLaw.push X d i y = X y := by simp [KahnLaw.push, ey]
      rw [e1]
      exact ((h.own y hy).alloc _).kept hg (h.apart y hy d hd ey)
  · by_cases ex : x = d
    · subst ex
      rw [keyd, key y (fun e => hxy e.symm)]
      rcases hl with hl | hl
      · rw [hl]; exact h.apart x hx y hy hxy
      · rw [hl]; right; intro e2; have := (h.ge hy e2.symm).2; omega
    · rw [key x ex]
      by_cases ey : y = d
      · subst ey
        rw [keyd]
        rcases hl with hl | hl
        · rw [hl]; exact h.apart x hx y hy hxy
        · rw [hl]
          cases ev : (Value.slice (Va x) (X x).length (Vc x)).ownBlock with
          | none => exact .inl rfl
          | some k => right; intro e2; have := (h.ge hx ev).2; have := Option.some.inj e2; omega
      · rw [key y ey]; exact h.apart x hx y hy hxy

theorem slice_shape {w : World} {base e size n : Nat} {v : Value} {xs : List Value} (h : w.ownsRow base e size v n xs) : ∃ a c, v = .slice a n c := by
  rcases h.2 with ⟨rfl, rfl⟩ | ⟨g, cap, _, rfl, _⟩
  · exact ⟨none, 0, rfl⟩
  · exact ⟨_, cap, rfl⟩

/-- The lists of dependents, once made, as rows that can be read. -/
theorem Build.deps {w2 wr : World} {n m Bq Bk Bc Bd : Nat} {p P0 : Nat → Bool} {cnt : Nat → Nat} {X : Nat → List Nat} {Va : Nat → Option Addr} {Vc : Nat → Nat} (h : Build w2 wr n m Bq Bk Bc Bd p P0 cnt X Va Vc) :
    ∃ rx : Nat → Nat, Deps wr (some ⟨Bd, 0, none⟩) m Bd 0 Va (fun x => (X x).length) Vc rx (fun _ => 0) (fun x j => ((X x).getD j 0 : Nat)) ∧ ∀ x, x < m → 0 < (X x).length → Bd < rx x ∧ rx x < wr.heap.size := by
  have hrow : ∀ x, x < m → 0 < (X x).length → ∃ g, Va x = some ⟨g, 0, none⟩ ∧ Bd < g ∧ g < wr.heap.size ∧ ∀ j, j < (X x).length → wr.cell? ⟨g, j, none⟩ = some (.int .i64 ((X x).getD j 0 : Nat)) := by
    intro x hx hl
    have ho := h.own x hx
    rcases ho.2 with ⟨_, h0⟩ | ⟨g, cap, cur, hv, hb, hg, _⟩
    · omega
    · simp only [Value.slice.injEq] at hv
      obtain ⟨hva, _, hvc⟩ := hv
      rw [hva] at ho
      refine ⟨g, hva, by omega, (Array.getElem?_eq_some_iff.1 hg).1, fun j hj => ?_⟩
      have := ho.cellAt j (by omega)
      rw [this]
      simp [ints, hj]
  refine ⟨fun x => ((Va x).getD ⟨0, 0, none⟩).block, ⟨fun _ => rfl, fun x hx => by simpa using h.top.cell hx, fun x hx hl => ?_, fun x hx j hj => ?_⟩, fun x hx hl => ?_⟩
  · obtain ⟨g, hg, _⟩ := hrow x hx hl; rw [hg]; rfl
  · obtain ⟨g, hg, _, _, hc⟩ := hrow x hx (by omega); rw [hg]; simpa using hc j hj
  · obtain ⟨g, hg, h1, h2, _⟩ := hrow x hx hl; simp only [hg]; exact ⟨h1, h2⟩

/-- KAHN's OWN LOOP: what lies between Bd and Bu is as it was in w8. -/
structure Main (w2 w8 wr : World) (n m Bq Bk Bc Bd Bu : Nat) (p K : Nat → Bool) (cnt : Nat → Nat) (Q : List Nat) : Prop where
  below : Below w2.heap.size w2 wr
  mid : ∀ k, Bd ≤ k → k < Bu → wr.heap[k]? = w8.heap[k]?
  p : wr.rowIs Bq 4 m (fun i => .bool (p i))
  kahn : wr.rowIs Bk 4 m (fun i => .bool (K i))
  cnt : wr.rowIs Bc 3 n (fun i => .int .i64 (cnt i : Int))
  queue : wr.ownsRow Bu 3 1 (.slice (some ⟨Bu, 0, none⟩) Q.length n) Q.length (ints Q)
  o1 : w2.heap.size ≤ Bq
  o2 : Bq < Bk
  o3 : Bk < Bc
  o4 : Bc < Bd
  o5 : Bd < Bu

theorem Main.szu {w2 w8 wr : World} {n m Bq Bk Bc Bd Bu : Nat} {p K : Nat → Bool} {cnt : Nat → Nat} {Q : List Nat} (h : Main w2 w8 wr n m Bq Bk Bc Bd Bu p K cnt Q) : Bu < wr.heap.size := (h.queue.lt Bu rfl).2

theorem Main.mark {w2 w8 wr : World} {n m Bq Bk Bc Bd Bu : Nat} {p K : Nat → Bool} {cnt : Nat → Nat} {Q : List Nat} (h : Main w2 w8 wr n m Bq Bk Bc Bd Bu p K cnt Q) (x : Nat) :
    Main w2 w8 (wr.setCell ⟨Bk, x, none⟩ (.bool true)) n m Bq Bk Bc Bd Bu p (put K x) cnt Q :=
  have a := h.o1; have b := h.o2; have c := h.o3; have d := h.o4; have e := h.o5
  ⟨h.below.setCell (by show w2.heap.size ≤ Bk; omega) _, fun k h1 h2 => (blk_setCell_other _ _ _ _ (by show k ≠ Bk; omega)).trans (h.mid k h1 h2), h.p.setOther (by show Bq ≠ Bk; omega) _,
    (h.kahn.set x _).congr (fun i _ => by by_cases ei : i = x <;> simp [put, ei]), h.cnt.setOther (by show Bc ≠ Bk; omega) _, ownsRow_setCell_below h.queue (by show Bk < Bu; omega) _, h.o1, h.o2, h.o3, h.o4, h.o5⟩
theorem Main.dec {w2 w8 wr : World} {n m Bq Bk Bc Bd Bu : Nat} {p K : Nat → Bool} {cnt : Nat → Nat} {Q : List Nat} (h : Main w2 w8 wr n m Bq Bk Bc Bd Bu p K cnt Q) (x : Nat) (hx : 1 ≤ cnt x) :
    Main w2 w8 (wr.setCell ⟨Bc, x, none⟩ (.int .i64 ((cnt x : Int) - 1))) n m Bq Bk Bc Bd Bu p K (dec cnt x) Q :=
  have a := h.o1; have b := h.o2; have c := h.o3; have d := h.o4; have e := h.o5
  ⟨h.below.setCell (by show w2.heap.size ≤ Bc; omega) _, fun k h1 h2 => (blk_setCell_other _ _ _ _ (by show k ≠ Bc; omega)).trans (h.mid k h1 h2), h.p.setOther (by show Bq ≠ Bc; omega) _, h.kahn.setOther (by show Bk ≠ Bc; omega) _,
    (h.cnt.set x _).congr (fun i _ => by
      by_cases ei : i = x
      · subst ei; rw [if_pos rfl, dec_same]; congr 1; omega
      · rw [if_neg ei, dec_other cnt x i ei]), ownsRow_setCell_below h.queue (by show Bc < Bu; omega) _, h.o1, h.o2, h.o3, h.o4, h.o5⟩
/-- 'queue = append(queue, x)': there is room. -/
theorem Main.queued {w2 w8 wr w4 : World} {n m Bq Bk Bc Bd Bu : Nat} {p K : Nat → Bool} {cnt : Nat → Nat} {Q : List Nat} (h : Main w2 w8 wr n m Bq Bk Bc Bd Bu p K cnt Q) {o : Obj} {x : Nat}
    (hg : (wr.alloc o).grownBy w4 (some Bu)) (ho : w4.ownsRow Bu 3 1 (.slice (some ⟨Bu, 0, none⟩) (Q.length + 1) n) (Q.length + 1) (ints Q ++ [.int .i64 (x : Int)])) :
    Main w2 w8 w4 n m Bq Bk Bc Bd Bu p K cnt (Q ++ [x]) := by
  have a := h.o1; have b := h.o2; have c := h.o3; have d := h.o4; have e := h.o5; have f := h.szu
  have ne : ∀ k, k < Bu → some k ≠ some Bu := fun k hk e => by have := Option.some.inj e; omega
  refine ⟨(h.below.alloc h.below.size _).grown hg (by simp; have := h.below.size; omega) (fun k hk => by have := Option.some.inj hk; omega),
    fun k h1 h2 => (hg.block k (by simp; omega) (ne k h2)).trans ((Below.heap_alloc wr o k (by omega)).trans (h.mid k h1 h2)), rowIs_grown (h.p.alloc _) hg (ne _ (by omega)), rowIs_grown (h.kahn.alloc _) hg (ne _ (by omega)), rowIs_grown (h.cnt.alloc _) hg (ne _ (by omega)), ?_, h.o1, h.o2, h.o3, h.o4, h.o5⟩
  simpa [ints] using ho

theorem Main.deps {w2 w8 wr : World} {n m Bq Bk Bc Bd Bu : Nat} {p K : Nat → Bool} {cnt : Nat → Nat} {Q : List Nat} (h : Main w2 w8 wr n m Bq Bk Bc Bd Bu p K cnt Q)
    {a : Option Addr} {Va : Nat → Option Addr} {l Vc rx : Nat → Nat} {D : Nat → Nat → Int} (hd : Deps w8 a m Bd 0 Va l Vc rx (fun _ => 0) D) (hb : ∀ x, x < m → 0 < l x → Bd < rx x ∧ rx x < Bu) : Deps wr a m Bd 0 Va l Vc rx (fun _ => 0) D :=
  ⟨hd.top, fun i hi => (World.cell?_of_block (w := w8) (a := ⟨Bd, 0 + i, none⟩) (h.mid Bd (Nat.le_refl _) h.o5)).trans (hd.row i hi), hd.lies,
    fun i hi j hj => (World.cell?_of_block (w := w8) (a := ⟨rx i, 0 + j, none⟩) (h.mid (rx i) (by have := (hb i hi (by omega)).1; omega) (hb i hi (by omega)).2)).trans (hd.num i hi j hj)⟩
/-! ### The lists' lengths: a bound that stands behind a letter -/
theorem lens_start (M x : Nat) : ((fun _ => []) x : List Nat).length ≤ 0 * M := by simp
theorem lens_skip {M : Nat} {X : Nat → List Nat} {i : Nat} (h : ∀ x, (X x).length ≤ i * M) : ∀ x, (X x).length ≤ (i + 1) * M := by intro x; have := h x; have e : (i + 1) * M = i * M + M := Nat.succ_mul i M; omega
theorem lens_in {M : Nat} {X : Nat → List Nat} {i : Nat} (h : ∀ x, (X x).length ≤ i * M) : ∀ x, (X x).length ≤ i * M + 0 := h
theorem lens_more {M : Nat} {X : Nat → List Nat} {i j : Nat} (h : ∀ x, (X x).length ≤ i * M + j) : ∀ x, (X x).length ≤ i * M + (j + 1) := by intro x; have := h x; omega
theorem lens_push {M : Nat} {X : Nat → List Nat} {i j d k : Nat} (h : ∀ x, (X x).length ≤ i * M + j) : ∀ x, (push X d k x).length ≤ i * M + (j + 1) := fun x => length_push X d k x _ (h x)
theorem lens_out {M : Nat} {X : Nat → List Nat} {i j : Nat} (h : ∀ x, (X x).length ≤ i * M + j) (hj : j ≤ M) : ∀ x, (X x).length ≤ (i + 1) * M := by intro x; have := h x; have e : (i + 1) * M = i * M + M := Nat.succ_mul i M; omega
theorem lens_bound {M : Nat} {X : Nat → List Nat} {i j : Nat} (h : ∀ x, (X x).length ≤ i * M + j) (hM : M = 1048576) (hi : i ≤ 1024) (hj : j ≤ 1048576) (d : Nat) : (X d).length ≤ 2147483648 := by
  have := h d
  have e : i * M ≤ 1024 * M := Nat.mul_le_mul_right M hi
  omega

theorem new_cell (w : World) (b i : Nat) (u x : Value) : ∀ j y, [x][j]? = some y → ((w.setCell ⟨b, i, none⟩ u).alloc (.cells #[x] 3)).cell? ((⟨w.heap.size, 0, none⟩ : Addr).add j) = some y := by
  have h := cell_one_new (w.setCell ⟨b, i, none⟩ u) x 3
  rw [nblk_setCell] at h
  exact h
theorem one_int (i : Nat) : ∀ u ∈ [Value.int .i64 (i : Int)], u.oneCell' = true := by intro u hu; simp at hu; subst hu; rfl

end Go.Proofs.Qxb6602874a
