import Derived.Test.Qxb6602790aSShelf
import Derived.Deep.RegionHeld3
import Derived.Deep.RegionLaw
import Derived.Deep.DrawnRows
namespace Go.Proofs.Qxb6602790a
open Go.RowKit Go.Deep SLaw
attribute [local go_sem ↓] Go.wp_at_zero Go.wp_at_succ

theorem Try.info91 : (Try.prog.info? 91).map (fun i => (i.zero, i.size, i.bytes)) = some (some (.agg #[.int .i64 0, .int .i64 0, .int .i64 0, .slice none 0 0, .slice none 0 0]), 5, 72) := by kernel_rfl
theorem Try.info100 : (Try.prog.info? 100).map (fun i => (i.zero, i.size, i.bytes)) = some (some (.agg #[.int .i64 0, .int .i64 0]), 2, 16) := by kernel_rfl

/-- The ten cells of a grant. -/
def grantF (t : ByteArray) (a : Bool) (ids : Value) (q : Nat) : Value :=
  if q = 0 then .string t else if q = 1 then .bool a else if q = 2 then ids else if q = 3 ∨ q = 5 ∨ q = 7 then .bool false else .slice none 0 0

/-- THE GRANTS THAT ARE HANDED TO THE SHELF: in blocks without a colour. -/
structure Grants (w : World) (col : Nat → Nat) (gp : Option Addr) (gn : Nat) (T : Nat → ByteArray) (A : Nat → Bool) (ip : Nat → Option Addr) (inn ic : Nat → Nat) (IS : Nat → List ByteArray) : Prop where
  cells : ∀ i, i < gn → ∃ b, gp = some ⟨b, 0, none⟩ ∧ col b = 0 ∧ ∀ q, q < 10 → w.cell? ⟨b, i * 10 + q, none⟩ = some (grantF (T i) (A i) (.slice (ip i) (inn i) (ic i)) q)
  ids : ∀ i, i < gn → Strs w (ip i) (inn i) (IS i) ∧ ∀ b off, ip i = some ⟨b, off, none⟩ → col b = 0

theorem Grants.alloc {w : World} {col : Nat → Nat} {gp : Option Addr} {gn : Nat} {T : Nat → ByteArray} {A : Nat → Bool} {ip : Nat → Option Addr} {inn ic : Nat → Nat} {IS : Nat → List ByteArray} (h : Grants w col gp gn T A ip inn ic IS) (o : Obj) : Grants (w.alloc o) col gp gn T A ip inn ic IS :=
  ⟨fun i hi => by
    obtain ⟨b, e, hc, h1⟩ := h.cells i hi
    exact ⟨b, e, hc, fun q hq => cell_add_alloc (h1 q hq)⟩, fun i hi => ⟨(h.ids i hi).1.kept (World.grownBy_alloc w o none) (by simp), (h.ids i hi).2⟩⟩

/-- What set n's grant i lists; what it leaves unlisted. -/
def gF (T : Nat → ByteArray) (A : Nat → Bool) (IS : Nat → List ByteArray) (n i : Nat) : List (K × R) := if A i then [] else (IS i).map (fun id => ((T i, id), (n, i)))
def gU (T : Nat → ByteArray) (A : Nat → Bool) (n i : Nat) : List (K × R) := if A i then [((T i, ByteArray.empty), (n, i))] else []
def upF (T : Nat → ByteArray) (A : Nat → Bool) (IS : Nat → List ByteArray) (n i : Nat) : List (K × R) := (List.range i).flatMap (gF T A IS n)
def upU (T : Nat → ByteArray) (A : Nat → Bool) (n i : Nat) : List (K × R) := (List.range i).flatMap (gU T A n)
theorem upF_succ (T : Nat → ByteArray) (A : Nat → Bool) (IS : Nat → List ByteArray) (n i : Nat) : upF T A IS n (i + 1) = upF T A IS n i ++ gF T A IS n i := by simp [upF, List.range_succ]
theorem upU_succ (T : Nat → ByteArray) (A : Nat → Bool) (n i : Nat) : upU T A n (i + 1) = upU T A n i ++ gU T A n i := by simp [upU, List.range_succ]

theorem slice_shape' {w : World} {base e size n : Nat} {v : Value} {xs : List Value} (h : w.ownsRow base e size v n xs) : ∃ a c, v = .slice a n c := by
  rcases h.2 with ⟨rfl, rfl⟩ | ⟨g, cap, _, rfl, _⟩
  · exact ⟨none, 0, rfl⟩
  · exact ⟨_, cap, rfl⟩
theorem one_sto (s : Sto) : ∀ u ∈ stoCells s, u.oneCell' = true := by
  intro u hu
  simp only [stoCells, List.mem_cons, List.not_mem_nil, or_false] at hu
  rcases hu with rfl | rfl | rfl | rfl | rfl <;> rfl

theorem cutG (G T : Prop) (k : (Nat → Nat → G) → T) (h : G) : T := k (fun _ _ => h)
theorem grown_left {x y : World} {r : Option Nat} (h : x.drew.grownBy y r) : x.grownBy y r := ⟨h.os, h.tape, h.output, h.size, h.block⟩

/-- The box's cells, behind a step. -/
theorem Next.box {w w3 : World} {B sb m1 m2 : Nat} {col : Nat → Nat} {st : List Sto} {F U : List (K × R)} (h : Next w B sb m1 m2 col st F U w3) : w3.cell? ⟨sb, 1, none⟩ = some (.map (some m1)) ∧ w3.cell? ⟨sb, 2, none⟩ = some (.map (some m2)) := by
  obtain ⟨_, _, hs, _⟩ := h
  obtain ⟨v, h1, _⟩ := hs.sets
  exact ⟨h1.cell (i := 1) (by omega), h1.cell (i := 2) (by omega)⟩
theorem Next.cell {w w3 : World} {B sb m1 m2 : Nat} {col : Nat → Nat} {st : List Sto} {F U : List (K × R)} (h : Next w B sb m1 m2 col st F U w3) {a : Addr} {v : Value} (h0 : col a.block = 0) (hc : w.cell? a = some v) : w3.cell? a = some v := by
  obtain ⟨_, _, _, ht⟩ := h
  exact ht.cell h0 hc
theorem Next.chain {w w1 w3 : World} {B sb m1 m2 : Nat} {col col1 : Nat → Nat} {st : List Sto} {F U : List (K × R)} (ag : ∀ b, b < w.heap.size → col1 b = col b) (ht : Turn col w w1) (h : Next w1 B sb m1 m2 col1 st F U w3) : Next w B sb m1 m2 col st F U w3 := by
  obtain ⟨col2, e2, s2, t2⟩ := h
  exact ⟨col2, fun b hb => (e2 b (Nat.lt_of_lt_of_le hb ht.size)).trans (ag b hb), s2, ht.trans t2 ag⟩
theorem setBlock_drew (w : World) (b : Nat) (o : Obj) : ChangeMaps.setBlock w.drew b o = (ChangeMaps.setBlock w b o).drew := rfl
theorem setBlock_alloc (w : World) (b : Nat) (o : Obj) (h : b < w.heap.size) (o' : Obj) : ChangeMaps.setBlock (w.alloc o') b o = (ChangeMaps.setBlock w b o).alloc o' := by
  show ({ w with heap := (w.heap.push o').setIfInBounds b o } : World) = { w with heap := (w.heap.setIfInBounds b o).push o' }
  congr 1
  apply Array.ext_getElem?
  intro k
  by_cases e : k = b
  · subst e
    rw [Array.getElem?_setIfInBounds_self_of_lt (by rw [Array.size_push]; omega), Array.getElem?_push, if_neg (by rw [Array.size_setIfInBounds]; omega), Array.getElem?_setIfInBounds_self_of_lt h]
  · rw [Array.getElem?_setIfInBounds_ne (Ne.symm e), Array.getElem?_push, Array.getElem?_push, Array.size_setIfInBounds, Array.getElem?_setIfInBounds_ne (Ne.symm e)]
theorem news_at (w : World) (H : Nat) (cs : Array Value) (t : TypeId) (hH : H = w.heap.size) : ∀ j u, cs.toList[j]? = some u → (w.alloc (.cells cs t)).drew.cell? ((⟨H, 0, none⟩ : Addr).add j) = some u := by
  subst hH
  exact World.news_of_block (w := (w.alloc (.cells cs t)).drew) (fr := (0, 0)) (heap_alloc_new w _)
theorem one_ref (r : R) : ∀ u ∈ [Value.int .i64 (r.1 : Int), .int .i64 (r.2 : Int)], u.oneCell' = true := by
  intro u hu
  simp only [List.mem_cons, List.not_mem_nil, or_false] at hu
  rcases hu with rfl | rfl <;> rfl
theorem two_new (w : World) (c d : Array Value) (t u : TypeId) (x y z : Value) (hx : c[0]? = some x) (hy : d[0]? = some y) (hz : d[1]? = some z) :
    ((w.alloc (.cells c t)).alloc (.cells d u)).cell? ⟨w.heap.size, 0, none⟩ = some x ∧ ((w.alloc (.cells c t)).alloc (.cells d u)).cell? ⟨w.heap.size + 1, 0, none⟩ = some y ∧ ((w.alloc (.cells c t)).alloc (.cells d u)).cell? ⟨w.heap.size + 1, 1, none⟩ = some z ∧
    w.heap.size + 1 < ((w.alloc (.cells c t)).alloc (.cells d u)).heap.size := by
  have e1 : (w.alloc (.cells c t)).heap.size = w.heap.size + 1 := nblk_alloc _ _
  have h1 := heap_alloc_new w (.cells c t)
  have h2 := heap_alloc_new (w.alloc (.cells c t)) (.cells d u)
  rw [e1] at h2
  refine ⟨cell_add_alloc (by rw [cell_of_row _ _ _ _ _ _ h1]; exact hx), by rw [cell_of_row _ _ _ _ _ _ h2]; exact hy, by rw [cell_of_row _ _ _ _ _ _ h2]; exact hz, by rw [nblk_alloc, e1]; omega⟩
theorem grow2 (w : World) (o o' : Obj) : w.grownBy ((w.alloc o).alloc o') none := grownBy_alloc' (World.grownBy_alloc w o none) o'

end Go.Proofs.Qxb6602790a
