import Derived.Test.Qxb6602790aSData
import Derived.SliceStrings
import Derived.Deep.Strs
import Derived.Deep.Slices
import Derived.KernelRfl
namespace Go.Proofs.Qxb6602790a
open Go.RowKit Go.Deep Go.ChangeShapes

theorem cellsT9 : Try.prog.cellsOf 9 = 1 := by kernel_rfl
theorem cellsT4 : Try.prog.cellsOf 4 = 1 := by kernel_rfl
theorem cellsT2 : Try.prog.cellsOf 2 = 1 := by kernel_rfl
theorem cellsT3 : Try.prog.cellsOf 3 = 1 := by kernel_rfl
theorem cellsT22 : Try.prog.cellsOf 22 = 1 := by kernel_rfl
theorem cellsT44 : Try.prog.cellsOf 44 = 1 := by kernel_rfl
theorem cellsT48 : Try.prog.cellsOf 48 = 3 := by kernel_rfl
theorem cellsT46 : Try.prog.cellsOf 46 = 5 := by kernel_rfl

section
variable {H : Type} {enc : TypeId × Value → H} {w : World} {base : Nat} {held : Bool} {fuel : Nat} {v : Value} {x : DataW H × List MemPlace}

theorem open_str (h : DataW.trod enc Try.prog w base (fun _ => true) held fuel 9 [v] = some x) : ∃ s, v = .string s ∧ s.size ≤ 9223372036854775807 := by
  cases fuel with
  | zero => simp [DataW.trod] at h
  | succ fuel =>
    cases v <;> simp [DataW.trod, Try.underlying9] at h
    exact ⟨_, rfl, by have := h.1; unfold maxLen at this; exact this⟩
theorem open_bool (h : DataW.trod enc Try.prog w base (fun _ => true) held fuel 4 [v] = some x) : ∃ b, v = .bool b := by
  cases fuel with
  | zero => simp [DataW.trod] at h
  | succ fuel =>
    cases v <;> simp [DataW.trod, Try.underlying4] at h
    exact ⟨_, rfl⟩
theorem open_i2 (h : DataW.trod enc Try.prog w base (fun _ => true) held fuel 2 [v] = some x) : ∃ z, v = .int .i64 z := by
  cases fuel with
  | zero => simp [DataW.trod] at h
  | succ fuel =>
    cases v <;> simp [DataW.trod, Try.underlying2] at h
    obtain ⟨⟨rfl, _⟩, _⟩ := h
    exact ⟨_, rfl⟩
theorem open_i3 (h : DataW.trod enc Try.prog w base (fun _ => true) held fuel 3 [v] = some x) : ∃ z, v = .int .i64 z := by
  cases fuel with
  | zero => simp [DataW.trod] at h
  | succ fuel =>
    cases v <;> simp [DataW.trod, Try.underlying3] at h
    obtain ⟨⟨rfl, _⟩, _⟩ := h
    exact ⟨_, rfl⟩

/-- (where, how long, room, the strings) -/
abbrev SL := Option Addr × Nat × Nat × List ByteArray
def OkS (w : World) (q : SL) : Prop := Strs w q.1 q.2.1 q.2.2.2 ∧ (∀ j, j < q.2.1 → (q.2.2.2.getD j ByteArray.empty).size ≤ 9223372036854775807) ∧ (q.1 = none → q.2.1 = 0 ∧ q.2.2.1 = 0) ∧ q.2.1 ≤ 9223372036854775807
theorem open_sl (h : DataW.trod enc Try.prog w base (fun _ => true) held fuel 22 [v] = some x) : ∃ q : SL, v = .slice q.1 q.2.1 q.2.2.1 ∧ OkS w q := by
  rcases open_strings Try.underlying22 Try.underlying9 cellsT9 h with ⟨hcs, _⟩ | ⟨ad, n, cap, ss, hcs, _, hl, hm, hlen, _, hc, hs⟩
  · simp at hcs
    exact ⟨(none, 0, 0, []), hcs, ⟨rfl, fun j hj => absurd hj (Nat.not_lt_zero _)⟩, fun j hj => absurd hj (Nat.not_lt_zero _), fun _ => ⟨rfl, rfl⟩, Nat.zero_le _⟩
  · simp at hcs
    simp at hlen
    unfold maxLen at hm hs
    have hg : ∀ j, j < n → (ss.take n).getD j ByteArray.empty = ss.getD j ByteArray.empty := fun j hj => by
      rw [List.getD_eq_getElem?_getD, List.getD_eq_getElem?_getD, List.getElem?_take, if_pos hj]
    refine ⟨(some ad, n, cap, ss.take n), hcs, ⟨by show (ss.take n).length = n; rw [List.length_take]; omega, fun j hj => ?_⟩, fun j hj => ?_, (fun h => by cases h), by show n ≤ _; omega⟩
    · have hj' : j < n := hj
      obtain ⟨b, off, e, _, hc2⟩ := cells_plain (n := n) (g := fun j => .string (ss.getD j ByteArray.empty)) (fun i hi => hc i (by omega)) (by omega)
      exact ⟨b, off, by rw [e], fun i hi => by show w.cell? _ = some (.string ((ss.take n).getD i ByteArray.empty)); rw [hg i hi]; exact hc2 i hi⟩
    · have hj' : j < n := hj
      show ((ss.take n).getD j ByteArray.empty).size ≤ _
      rw [hg j hj', getD_eq (by omega)]
      exact hs _ (List.getElem_mem _)

/-- A grant that came in. -/
abbrev GL := ByteArray × Bool × SL
def OkG (w : World) (gp : Option Addr) (i : Nat) (q : GL) : Prop :=
  (∃ b off, gp = some ⟨b, off, none⟩ ∧ w.cell? ⟨b, off + i * 3, none⟩ = some (.string q.1) ∧ w.cell? ⟨b, off + i * 3 + 1, none⟩ = some (.bool q.2.1) ∧ w.cell? ⟨b, off + i * 3 + 2, none⟩ = some (.slice q.2.2.1 q.2.2.2.1 q.2.2.2.2.1)) ∧ q.1.size ≤ 9223372036854775807 ∧ OkS w q.2.2

theorem plain_of {a : Addr} {u : Value} (h : w.cell? (a.add 0) = some u) : ∃ b off, a = ⟨b, off, none⟩ := by
  obtain ⟨b, off, spot⟩ := a
  have hs : spot = none := by simpa [Addr.add] using World.cell?_spot h
  exact ⟨b, off, by rw [hs]⟩
theorem plain_first {a : Addr} {e k : Nat} (h : ∃ cs', w.cells? base (a.add (0 * e)) (k + 1) = some cs') : ∃ b off, a = ⟨b, off, none⟩ := by
  obtain ⟨cs', h1⟩ := h
  obtain ⟨_, hlen, hcell⟩ := World.cells?_some h1
  have e0 := hcell 0 (by omega)
  rw [List.getElem?_eq_getElem (by omega), Nat.zero_mul, add_add] at e0
  exact plain_of e0
/-- A struct of five fields. -/
theorem open_five {P : Program} {t : TypeId} {f0 f1 f2 f3 f4 : Field} {cs : List Value} (ht : P.underlying t = some (.struct #[f0, f1, f2, f3, f4])) (h : DataW.trod enc P w base (fun _ => true) held fuel t cs = some x) :
    ∃ y0 y1 y2 y3 y4 n, DataW.trod enc P w base (fun _ => true) held n f0.type ((cs.drop f0.offset).take (P.cellsOf f0.type)) = some y0 ∧ DataW.trod enc P w base (fun _ => true) held n f1.type ((cs.drop f1.offset).take (P.cellsOf f1.type)) = some y1 ∧
      DataW.trod enc P w base (fun _ => true) held n f2.type ((cs.drop f2.offset).take (P.cellsOf f2.type)) = some y2 ∧ DataW.trod enc P w base (fun _ => true) held n f3.type ((cs.drop f3.offset).take (P.cellsOf f3.type)) = some y3 ∧
      DataW.trod enc P w base (fun _ => true) held n f4.type ((cs.drop f4.offset).take (P.cellsOf f4.type)) = some y4 := by
  obtain ⟨xs, n, _, _, _, hlen, hf⟩ := DataW.trod_struct ht h
  match xs, hlen with
  | [y0, y1, y2, y3, y4], _ => exact ⟨y0, y1, y2, y3, y4, n, by simpa using hf 0 f0 rfl, by simpa using hf 1 f1 rfl, by simpa using hf 2 f2 rfl, by simpa using hf 3 f3 rfl, by simpa using hf 4 f4 rfl⟩

set_option maxRecDepth 100000 in
theorem open_gl (h : DataW.trod enc Try.prog w base (fun _ => true) held fuel 44 [v] = some x) :
    ∃ (gp : Option Addr) (gn gc : Nat) (g : Nat → GL), v = .slice gp gn gc ∧ (gp = none → gn = 0 ∧ gc = 0) ∧ gn ≤ 9223372036854775807 ∧ ∀ i, i < gn → OkG w gp i (g i) := by
  rcases open_slice Try.underlying44 h with ⟨hcs, _⟩ | ⟨a, len, cap, m, n, _, _, hcs, _, hl, hm, hmm, _, hx⟩
  · simp at hcs
    exact ⟨none, 0, 0, fun _ => (ByteArray.empty, false, none, 0, 0, []), hcs, fun _ => ⟨rfl, rfl⟩, Nat.zero_le _, fun i hi => absurd hi (Nat.not_lt_zero _)⟩
  · simp at hcs
    simp at hmm
    unfold maxLen at hm
    have each : ∀ i, i < len → ∃ q : GL, OkG w (some a) i q := fun i hi => by
      obtain ⟨cs', h1, h2⟩ := hx i (by omega)
      rw [cellsT48] at h1
      obtain ⟨_, hlen, hcell⟩ := World.cells?_some h1
      obtain ⟨b, off, rfl⟩ := plain_first (k := 2) (by obtain ⟨c0, hc0, _⟩ := hx 0 (by omega); rw [cellsT48] at hc0; exact ⟨c0, hc0⟩)
      obtain ⟨y0, y1, y2, n', _, _, g0, g1, g2⟩ := trod_struct3 Try.underlying48 h2
      match cs', hlen with
      | [v0, v1, v2], _ =>
        simp [cellsT9, cellsT4, cellsT22] at g0 g1 g2
        obtain ⟨t, rfl, ht⟩ := open_str g0
        obtain ⟨bb, rfl⟩ := open_bool g1
        obtain ⟨q, rfl, hq⟩ := open_sl g2
        have e0 := hcell 0 (by omega)
        have e1 := hcell 1 (by omega)
        have e2 := hcell 2 (by omega)
        rw [add_add, addr_plain] at e0 e1 e2
        simp at e0 e1 e2
        exact ⟨(t, bb, q), ⟨b, off, rfl, e0, e1, e2⟩, ht, hq⟩
    obtain ⟨g, hg⟩ := choose_lt each
    exact ⟨some a, len, cap, g, hcs, (fun h => by cases h), by omega, hg⟩

/-- A set that came in. -/
abbrev TL := (Int × Int × Int) × SL × (Option Addr × Nat × Nat) × (Nat → GL)
def OkT (w : World) (p : Option Addr) (j : Nat) (q : TL) : Prop :=
  (∃ b off, p = some ⟨b, off, none⟩ ∧ w.cell? ⟨b, off + j * 5, none⟩ = some (.int .i64 q.1.1) ∧ w.cell? ⟨b, off + j * 5 + 1, none⟩ = some (.int .i64 q.1.2.1) ∧ w.cell? ⟨b, off + j * 5 + 2, none⟩ = some (.int .i64 q.1.2.2) ∧
    w.cell? ⟨b, off + j * 5 + 3, none⟩ = some (.slice q.2.1.1 q.2.1.2.1 q.2.1.2.2.1) ∧ w.cell? ⟨b, off + j * 5 + 4, none⟩ = some (.slice q.2.2.1.1 q.2.2.1.2.1 q.2.2.1.2.2)) ∧
  OkS w q.2.1 ∧ (q.2.2.1.1 = none → q.2.2.1.2.1 = 0 ∧ q.2.2.1.2.2 = 0) ∧ q.2.2.1.2.1 ≤ 9223372036854775807 ∧ ∀ i, i < q.2.2.1.2.1 → OkG w q.2.2.1.1 i (q.2.2.2 i)

set_option maxRecDepth 100000 in
theorem open_tl (h : DataW.trod enc Try.prog w base (fun _ => true) held fuel 42 [v] = some x) :
    ∃ (p : Option Addr) (n c : Nat) (q : Nat → TL), v = .slice p n c ∧ (p = none → n = 0 ∧ c = 0) ∧ n ≤ 9223372036854775807 ∧ ∀ j, j < n → OkT w p j (q j) := by
  rcases open_slice Try.underlying42 h with ⟨hcs, _⟩ | ⟨a, len, cap, m, n, _, _, hcs, _, hl, hm, hmm, _, hx⟩
  · simp at hcs
    exact ⟨none, 0, 0, fun _ => ((0, 0, 0), (none, 0, 0, []), (none, 0, 0), fun _ => (ByteArray.empty, false, none, 0, 0, [])), hcs, fun _ => ⟨rfl, rfl⟩, Nat.zero_le _, fun i hi => absurd hi (Nat.not_lt_zero _)⟩
  · simp at hcs
    simp at hmm
    unfold maxLen at hm
    have each : ∀ j, j < len → ∃ q : TL, OkT w (some a) j q := fun j hj => by
      obtain ⟨cs', h1, h2⟩ := hx j (by omega)
      rw [cellsT46] at h1
      obtain ⟨_, hlen, hcell⟩ := World.cells?_some h1
      obtain ⟨b, off, rfl⟩ := plain_first (k := 4) (by obtain ⟨c0, hc0, _⟩ := hx 0 (by omega); rw [cellsT46] at hc0; exact ⟨c0, hc0⟩)
      obtain ⟨y0, y1, y2, y3, y4, n', g0, g1, g2, g3, g4⟩ := open_five Try.underlying46 h2
      match cs', hlen with
      | [v0, v1, v2, v3, v4], _ =>
        simp [cellsT2, cellsT3, cellsT22, cellsT44] at g0 g1 g2 g3 g4
        obtain ⟨z0, rfl⟩ := open_i2 g0
        obtain ⟨z1, rfl⟩ := open_i2 g1
        obtain ⟨z2, rfl⟩ := open_i3 g2
        obtain ⟨q, rfl, hq⟩ := open_sl g3
        obtain ⟨gp, gn, gc, gg, rfl, k1, k2, k3⟩ := open_gl g4
        have e0 := hcell 0 (by omega)
        have e1 := hcell 1 (by omega)
        have e2 := hcell 2 (by omega)
        have e3 := hcell 3 (by omega)
        have e4 := hcell 4 (by omega)
        rw [add_add, addr_plain] at e0 e1 e2 e3 e4
        simp at e0 e1 e2 e3 e4
        exact ⟨((z0, z1, z2), q, (gp, gn, gc), gg), ⟨b, off, rfl, e0, e1, e2, e3, e4⟩, hq, k1, k2, k3⟩
    obtain ⟨q, hq⟩ := choose_lt each
    exact ⟨some a, len, cap, q, hcs, (fun h => by cases h), by omega, hq⟩

/-- WHAT THE WALK IS TOLD OF THE ARGUMENT. -/
theorem open_sets (h : DataW.trod enc Try.prog w base (fun _ => true) held fuel 42 [v] = some x) :
    ∃ (p : Option Addr) (n c : Nat) (D : Dat) (X : Adr), v = .slice p n c ∧ Reads w p n D X ∧ Counted n D ∧ (p = none → n = 0 ∧ c = 0) := by
  obtain ⟨p, n, c, q, hv, hp, hn, hq⟩ := open_tl h
  refine ⟨p, n, c, ⟨fun j => (q j).1.1, fun j => (q j).1.2.1, fun j => (q j).1.2.2, fun j => (q j).2.1.2.1, fun j => (q j).2.1.2.2.2, fun j => (q j).2.2.1.2.1, fun j i => ((q j).2.2.2 i).1, fun j i => ((q j).2.2.2 i).2.1, fun j i => ((q j).2.2.2 i).2.2.2.1, fun j i => ((q j).2.2.2 i).2.2.2.2.2⟩,
    ⟨fun j => (q j).2.1.1, fun j => (q j).2.1.2.2.1, fun j => (q j).2.2.1.1, fun j => (q j).2.2.1.2.2, fun j i => ((q j).2.2.2 i).2.2.1, fun j i => ((q j).2.2.2 i).2.2.2.2.1⟩, hv, ?_, ?_, hp⟩
  · refine ⟨fun j hj => ?_, fun j hj => (hq j hj).2.1.1, fun j hj => (hq j hj).2.1.2.2.1, fun j hj i hi => ?_, fun j hj => (hq j hj).2.2.1, fun j hj i hi => ((hq j hj).2.2.2.2 i hi).2.2.1, fun j hj i hi => ((hq j hj).2.2.2.2 i hi).2.2.2.2.1⟩
    · obtain ⟨b, off, e, h1⟩ := (hq j hj).1
      exact ⟨b, off, e, h1⟩
    · obtain ⟨b, off, e, h1⟩ := ((hq j hj).2.2.2.2 i hi).1
      exact ⟨b, off, e, h1⟩
  · exact ⟨hn, fun j hj => (hq j hj).2.1.2.2.2, fun j hj => (hq j hj).2.1.2.1, fun j hj => (hq j hj).2.2.2.1, fun j hj i hi => ((hq j hj).2.2.2.2 i hi).2.1, fun j hj i hi => ((hq j hj).2.2.2.2 i hi).2.2.2.2.2, fun j hj i hi => ((hq j hj).2.2.2.2 i hi).2.2.2.1⟩
end
end Go.Proofs.Qxb6602790a
