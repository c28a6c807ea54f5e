import Derived.Test.Qxb6602790aQBytes
import Derived.Maps.Own
import Derived.Carry
import Derived.Maps.OwnSet
import Derived.Maps.OwnOps
namespace Go.Proofs.Qxb6602790a
open Go.RowKit Go.Deep QLaw

/-- What the query's map holds. -/
structure NumMap (ord : List ByteArray) (D : DataW Unit) : Prop where
  size : Maps.size D = ord.length
  has : ∀ s : ByteArray, Maps.has D (.string s.data.toList) = true ↔ s ∈ ord
  num : ∀ (i : Nat) (s : ByteArray), ord[i]? = some s → D.atKey (.string s.data.toList) (.lit (.int .i32 0)) = .lit (.int .i32 (i : Int))

theorem str_ne {s t : ByteArray} (h : s ≠ t) : Lit.string s.data.toList ≠ Lit.string t.data.toList := fun e => h (by
  injection e with e
  exact (data_inj _ _).1 (Array.toList_inj.1 e))

theorem NumMap.nil : NumMap [] (.map []) := ⟨rfl, fun s => by simp [Maps.has], fun i s h => by simp at h⟩
theorem NumMap.put {ord : List ByteArray} {D : DataW Unit} (h : NumMap ord D) (ht : Maps.Tidy D) {s : ByteArray} (hs : s ∉ ord) :
    NumMap (ord ++ [s]) (D.put (.string s.data.toList) (.lit (.int .i32 (ord.length : Int)))) := by
  have hnh : Maps.has D (.string s.data.toList) = false := by
    cases e : Maps.has D (.string s.data.toList) with
    | false => rfl
    | true => exact absurd ((h.has s).1 e) hs
  refine ⟨?_, fun t => ?_, fun i t hi => ?_⟩
  · rw [Maps.size_put ht, hnh, h.size]; simp
  · by_cases e : t = s
    · subst e
      rw [Maps.has_put_same ht.isMap (by simp [WideAt.IsKeyLit])]
      simp
    · rw [Maps.has_put_other (str_ne e), h.has, List.mem_append, List.mem_singleton]
      exact ⟨.inl, fun h1 => h1.resolve_right e⟩
  · by_cases hl : i < ord.length
    · rw [List.getElem?_append_left hl] at hi
      have hne : t ≠ s := fun e => hs (e ▸ List.mem_of_getElem? hi)
      rw [Maps.atKey_put_other (str_ne hne)]
      exact h.num i t hi
    · have hi2 : i = ord.length := by
        have := (List.getElem?_eq_some_iff.1 hi).1
        simp at this
        omega
      subst hi2
      obtain rfl : s = t := by simpa using hi
      rw [Maps.atKey_put_same ht.isMap (by simp [WideAt.IsKeyLit])]

/-- THE QUERY: its box, its map, what has been numbered. -/
structure Query (w : World) (qb mb : Nat) (ord : List ByteArray) : Prop where
  cell : w.cell? ⟨qb, 0, none⟩ = some (.map (some mb))
  map : ∃ D : DataW Unit, w.ownsMap Try.prog 9 (plainElem Try.prog 21) mb ord.length D ∧ NumMap ord D
  ne : qb ≠ mb

theorem Query.kept {w w' : World} {qb mb : Nat} {ord : List ByteArray} {row : Option Nat} (h : Query w qb mb ord) (hg : w.grownBy w' row) (h1 : some qb ≠ row) (h2 : some mb ≠ row) : Query w' qb mb ord :=
  ⟨by rw [World.cell?_of_block (w := w) (hg.block qb (World.block_lt_of_cell? w _ h.cell) h1)]; exact h.cell,
    let ⟨D, ho, hn⟩ := h.map; ⟨D, ho.kept hg h2, hn⟩, h.ne⟩

theorem Try.keyed9 : Maps.Keyed Try.prog 9 := Maps.string_keyed Try.underlying9
theorem key9 (s : ByteArray) (hs : s.size ≤ maxLen) : keyOf Try.prog 9 (.string s) = some (.string s.data.toList) := by
  simp [keyOf, Try.underlying9, mapKey, hs]

/-- 'n, seen := q.numbers[value]' at a value that has number i. -/
theorem Query.seen {w : World} {qb mb : Nat} {ord : List ByteArray} (h : Query w qb mb ord) {i : Nat} {s : ByteArray} (hi : ord[i]? = some s) (hs : s.size ≤ maxLen) :
    (Instr.lookup 72 (.map (some mb)) (.string s) true).run Try.prog w = .ok (.tuple #[.int .i32 (i : Int), .bool true]) w := by
  obtain ⟨D, ho, hn⟩ := h.map
  obtain ⟨v, ps, hrun, hv⟩ := ho.look_ok Try.keyed9 Try.underlying72 (Try.zeroValue21 w) (plainElem_int Try.underlying21 (by decide)) (key9 s hs)
  rw [hn.num i s hi] at hv
  obtain ⟨c, rfl, hc, _⟩ := plainElem_int_inv Try.underlying21 hv
  simp only [Prod.mk.injEq, DataW.lit.injEq, Lit.int.injEq, true_and] at hc
  rw [hrun, (hn.has s).2 (List.mem_of_getElem? hi), hc.1]
/-- .. at a value that has none. -/
theorem Query.unseen {w : World} {qb mb : Nat} {ord : List ByteArray} (h : Query w qb mb ord) {s : ByteArray} (hn' : s ∉ ord) (hs : s.size ≤ maxLen) :
    (Instr.lookup 72 (.map (some mb)) (.string s) true).run Try.prog w = .ok (.tuple #[.int .i32 0, .bool false]) w := by
  obtain ⟨D, ho, hn⟩ := h.map
  have hnh : Maps.has D (.string s.data.toList) = false := by
    cases e : Maps.has D (.string s.data.toList) with
    | false => rfl
    | true => exact absurd ((hn.has s).1 e) hn'
  obtain ⟨v, ps, hrun, hv⟩ := ho.look_ok Try.keyed9 Try.underlying72 (Try.zeroValue21 w) (plainElem_int Try.underlying21 (by decide)) (key9 s hs)
  rw [Maps.atKey_of_not_has hnh] at hv
  obtain ⟨c, rfl, hc, _⟩ := plainElem_int_inv Try.underlying21 hv
  simp only [Prod.mk.injEq, DataW.lit.injEq, Lit.int.injEq, true_and] at hc
  rw [hrun, hnh, ← hc.1]
theorem Query.len {w : World} {qb mb : Nat} {ord : List ByteArray} (h : Query w qb mb ord) (ty : TypeId) : (Builtin.len_ #[72] ty #[.map (some mb)]).run Try.prog w = .ok (.int .i64 (ord.length : Int)) w := by
  obtain ⟨D, ho, hn⟩ := h.map
  rw [ho.len Try.underlying72 ty, hn.size]
/-- 'q.numbers[value] = n'. -/
theorem Query.store {w : World} {qb mb : Nat} {ord : List ByteArray} (h : Query w qb mb ord) {s : ByteArray} (hs : s.size ≤ maxLen) (hn' : s ∉ ord) (hl : ord.length ≤ 8192) :
    ∃ w', (Instr.mapUpdate 72 (.map (some mb)) (.string s) (.int .i32 (ord.length : Int))).run Try.prog w = .ok () w' ∧ Query w' qb mb (ord ++ [s]) ∧ w.grownBy w' (some mb) := by
  obtain ⟨D, ho, hn⟩ := h.map
  obtain ⟨w', hrun, ho', hg⟩ := ho.update Try.keyed9 Try.underlying72 (by simp [maxLen]; omega) (key9 s hs) (plainElem_int Try.underlying21 (a := (ord.length : Int)) (by
    have e1 : IntKind.i32.min = -2147483648 := by decide
    have e2 : IntKind.i32.max = 2147483647 := by decide
    simp [Lit.wf, e1, e2]; omega))
  refine ⟨w', hrun, ⟨?_, ⟨_, ?_, hn.put (ho.tidy Try.keyed9) hn'⟩, h.ne⟩, hg⟩
  · rw [World.cell?_of_block (w := w) (hg.block qb (World.block_lt_of_cell? w _ h.cell) (by simpa using h.ne))]; exact h.cell
  · rw [List.length_append]; exact ho'

set_option maxHeartbeats 2000000 in
set_option maxRecDepth 100000 in
theorem newQuery_w (w : World) : Calls Try.prog 12 #[] w fun e w' => e = .returned (.pointer (some ⟨w.heap.size + 1, 0, none⟩)) ∧ Query w' (w.heap.size + 1) w.heap.size [] ∧ w.grownBy w' none := by
  have hmk := fun w => run_makeMap (P := Try.prog) 72 w
  go_enter Try.func12, Try.ntmps12
  go_wp2
  go_ret
  refine ⟨rfl, ⟨?_, ⟨.map [], ?_, NumMap.nil⟩, by omega⟩, grownBy_alloc' (World.grownBy_alloc w _ none) _⟩
  · have h := (World.rowIs_alloc (w.alloc (.map #[] 0)) #[.map (some w.heap.size), .slice none 0 0, .slice none 0 0] 76 (fun i => #[Value.map (some w.heap.size), .slice none 0 0, .slice none 0 0].getD i undef) (fun i hi => by
      simp only [Array.getD_eq_getD_getElem?]
      rw [Array.getElem?_eq_getElem hi]; rfl)).cell (i := 0) (by simp)
    rw [nblk_alloc] at h
    exact h
  · exact (World.ownsMap_made w Try.prog 9 (plainElem Try.prog 21)).alloc _

set_option maxHeartbeats 2000000 in
set_option maxRecDepth 100000 in
theorem count_w (qb mb : Nat) (ord : List ByteArray) (w : World) (h : Query w qb mb ord) : Calls Try.prog 15 #[.pointer (some ⟨qb, 0, none⟩)] w fun e w' => e = .returned (.int .i64 (ord.length : Int)) ∧ w' = w := by
  have hc := h.cell
  have hl := h.len
  clear h
  go_enter Try.func15, Try.ntmps15
  go_wp2
  go_ret
  exact ⟨rfl, rfl⟩

set_option maxHeartbeats 2000000 in
set_option maxRecDepth 100000 in
theorem number_w (qb mb : Nat) (ord : List ByteArray) (w : World) (h : Query w qb mb ord) (i : Nat) (s : ByteArray) (hi : ord[i]? = some s) (hs : s.size ≤ maxLen) :
    Calls Try.prog 16 #[.pointer (some ⟨qb, 0, none⟩), .string s] w fun e w' => e = .returned (.tuple #[.int .i32 (i : Int), .bool true]) ∧ w' = w := by
  have hc := h.cell
  have hl := h.seen hi hs
  clear h hi hs
  go_enter Try.func16, Try.ntmps16
  go_wp2
  go_ret2
  exact ⟨rfl, rfl⟩
end Go.Proofs.Qxb6602790a
