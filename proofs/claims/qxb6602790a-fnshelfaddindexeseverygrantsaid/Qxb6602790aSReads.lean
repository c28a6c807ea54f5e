import Derived.Test.Qxb6602790aSAdd
import Derived.Test.Qxb6602790aSClone
namespace Go.Proofs.Qxb6602790a
open Go.RowKit Go.Deep SLaw

/-! ### reading the shelf -/
theorem stoCells_get : ∀ (st : List Sto) (j : Nat) (s : Sto) (q : Nat), st[j]? = some s → q < 5 → (st.flatMap stoCells)[j * 5 + q]? = (stoCells s)[q]?
  | [], j, s, q, h, _ => by simp at h
  | x :: st, 0, s, q, h, hq => by
    simp at h
    subst h
    rw [List.flatMap_cons, Nat.zero_mul, Nat.zero_add, List.getElem?_append_left (by simp [stoCells]; exact hq)]
  | x :: st, j + 1, s, q, h, hq => by
    rw [List.flatMap_cons, List.getElem?_append_right (by simp [stoCells]; omega)]
    have := stoCells_get st j s q (by simpa using h) hq
    rw [← this]
    congr 1
    simp [stoCells]
    omega

section
variable {w : World} {B sb m1 m2 : Nat} {col : Nat → Nat} {st : List Sto} {F U : List (K × R)}

theorem Shelf.setAt (h : Shelf w B sb m1 m2 col st F U) {j : Nat} {s : Sto} (hj : st[j]? = some s) :
    ∃ g cap, w.cell? ⟨sb, 0, none⟩ = some (.slice (some ⟨g, 0, none⟩) st.length cap) ∧ w.cell? ⟨g, j * 5, none⟩ = some (.int .i64 s.nb) ∧ w.cell? ⟨g, j * 5 + 1, none⟩ = some (.int .i64 s.na) ∧ w.cell? ⟨g, j * 5 + 2, none⟩ = some (.int .i64 s.dp) ∧
      w.cell? ⟨g, j * 5 + 3, none⟩ = some (.slice s.lp s.ln s.lc) ∧ w.cell? ⟨g, j * 5 + 4, none⟩ = some (.slice s.gp s.gn s.gc) := by
  obtain ⟨v, h1, h2, _⟩ := h.sets
  have hjl : j < st.length := (List.getElem?_eq_some_iff.1 hj).1
  obtain ⟨g, cap, rfl, _⟩ := h2.form (by omega)
  have hc : ∀ q, q < 5 → w.cell? ⟨g, j * 5 + q, none⟩ = (stoCells s)[q]? := fun q hq => by
    rw [h2.cellAt (j * 5 + q) (by omega), stoCells_get st j s q hj hq]
  exact ⟨g, cap, h1.cell (i := 0) (by omega), hc 0 (by omega), hc 1 (by omega), hc 2 (by omega), hc 3 (by omega), hc 4 (by omega)⟩
theorem Shelf.count (h : Shelf w B sb m1 m2 col st F U) : ∃ p cap, w.cell? ⟨sb, 0, none⟩ = some (.slice p st.length cap) := by
  obtain ⟨v, h1, h2, _⟩ := h.sets
  obtain ⟨p, c, rfl⟩ := slice_shape' h2
  exact ⟨p, c, h1.cell (i := 0) (by omega)⟩
theorem Shelf.boxes (h : Shelf w B sb m1 m2 col st F U) : w.cell? ⟨sb, 1, none⟩ = some (.map (some m1)) ∧ w.cell? ⟨sb, 2, none⟩ = some (.map (some m2)) := (Next.refl h).box
theorem Shelf.lookListed (h : Shelf w B sb m1 m2 col st F U) (k : K) (hk : ok2 k) : ∃ v, (Instr.lookup 84 (.map (some m1)) (.agg #[.string k.1, .string k.2]) false).run Try.prog w = .ok v w ∧ w.ownsRow B 100 2 v (refs F k).length (refCells (refs F k)) := by
  obtain ⟨ks, es, clock, hi⟩ := h.listed
  obtain ⟨i, v, stp, _, atk, own, _⟩ := hi.at_ spells2 hk
  exact ⟨v, atk.look w hi.heap, own⟩
theorem Shelf.lookUnlisted (h : Shelf w B sb m1 m2 col st F U) (k : K) (hk : ok1 k) : ∃ v, (Instr.lookup 85 (.map (some m2)) (.string k.1) false).run Try.prog w = .ok v w ∧ w.ownsRow B 100 2 v (refs U k).length (refCells (refs U k)) := by
  obtain ⟨ks, es, clock, hi⟩ := h.unlisted
  obtain ⟨i, v, stp, _, atk, own, _⟩ := hi.at_ spells1 hk
  exact ⟨v, atk.look w hi.heap, own⟩
theorem Shelf.lenListed (h : Shelf w B sb m1 m2 col st F U) (ty : TypeId) : ∃ ks, Seen F ks ∧ (Builtin.len_ #[84] ty #[.map (some m1)]).run Try.prog w = .ok (.int .i64 (ks.length : Int)) w := by
  obtain ⟨ks, es, clock, hi⟩ := h.listed
  refine ⟨ks, hi.seen, ?_⟩
  simp [Builtin.len_, run_underlying Try.underlying84, MapKept.run_getObj_map hi.heap, Result.andThen, goInt, hi.size]
theorem Shelf.lenUnlisted (h : Shelf w B sb m1 m2 col st F U) (ty : TypeId) : ∃ ks, Seen U ks ∧ (Builtin.len_ #[85] ty #[.map (some m2)]).run Try.prog w = .ok (.int .i64 (ks.length : Int)) w := by
  obtain ⟨ks, es, clock, hi⟩ := h.unlisted
  refine ⟨ks, hi.seen, ?_⟩
  simp [Builtin.len_, run_underlying Try.underlying85, MapKept.run_getObj_map hi.heap, Result.andThen, goInt, hi.size]
end

/-! ### the functions -/
set_option maxHeartbeats 2000000 in
set_option maxRecDepth 100000 in
theorem setCount_w {w : World} {B sb m1 m2 : Nat} {col : Nat → Nat} {st : List Sto} {F U : List (K × R)} (h : Shelf w B sb m1 m2 col st F U) :
    Calls Try.prog 29 #[.pointer (some ⟨sb, 0, none⟩)] w fun e w' => e = .returned (.int .i64 (st.length : Int)) ∧ w' = w := by
  obtain ⟨p, cap, hc⟩ := h.count
  clear h
  go_enter Try.func29, Try.ntmps29
  go_wp2
  go_ret
  exact ⟨rfl, rfl⟩

/-- One list's count of keys. -/
def KeyCount (L : List (K × R)) (e : Ending) : Prop := ∃ ks, Seen L ks ∧ e = .returned (.int .i64 (ks.length : Int))
set_option maxHeartbeats 2000000 in
set_option maxRecDepth 100000 in
theorem listedKeys_w {w : World} {B sb m1 m2 : Nat} {col : Nat → Nat} {st : List Sto} {F U : List (K × R)} (h : Shelf w B sb m1 m2 col st F U) :
    Calls Try.prog 34 #[.pointer (some ⟨sb, 0, none⟩)] w fun e w' => KeyCount F e ∧ w' = w := by
  have hc := h.boxes.1
  obtain ⟨ks, hs, hl⟩ := h.lenListed 3
  have HS := hid hs
  clear h hs
  go_enter Try.func34, Try.ntmps34
  go_wp2
  go_ret
  exact ⟨⟨ks, HS.out, rfl⟩, rfl⟩
set_option maxHeartbeats 2000000 in
set_option maxRecDepth 100000 in
theorem unlistedKeys_w {w : World} {B sb m1 m2 : Nat} {col : Nat → Nat} {st : List Sto} {F U : List (K × R)} (h : Shelf w B sb m1 m2 col st F U) :
    Calls Try.prog 36 #[.pointer (some ⟨sb, 0, none⟩)] w fun e w' => KeyCount U e ∧ w' = w := by
  have hc := h.boxes.2
  obtain ⟨ks, hs, hl⟩ := h.lenUnlisted 3
  have HS := hid hs
  clear h hs
  go_enter Try.func36, Try.ntmps36
  go_wp2
  go_ret
  exact ⟨⟨ks, HS.out, rfl⟩, rfl⟩
end Go.Proofs.Qxb6602790a
