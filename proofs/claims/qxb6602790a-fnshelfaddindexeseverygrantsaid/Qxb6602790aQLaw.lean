import Derived.KernelRfl
/-! THE PLAIN HALF of the law on query.ask: no Go in this text. -/
namespace Go.Proofs.Qxb6602790a.QLaw

/-- "*". -/
def star : ByteArray := ⟨#[42]⟩

theorem data_inj (x y : ByteArray) : x.data = y.data ↔ x = y := by
  constructor
  · intro h; cases x; cases y; cases h; rfl
  · rintro rfl; rfl
theorem data_mem (o : List ByteArray) (v : ByteArray) : v.data ∈ o.map ByteArray.data ↔ v ∈ o := by
  rw [List.mem_map]
  constructor
  · rintro ⟨x, h, e⟩; rw [← (data_inj x v).1 e]; exact h
  · intro h; exact ⟨v, h, rfl⟩

def step (o : List ByteArray) (v : ByteArray) : List ByteArray := if v.data = star.data ∨ v.data ∈ o.map ByteArray.data then o else o ++ [v]
theorem step_old {o : List ByteArray} {v : ByteArray} (h : v = star ∨ v ∈ o) : step o v = o := by
  unfold step
  rw [if_pos]
  rcases h with h | h
  · exact .inl (by rw [h])
  · exact .inr ((data_mem o v).2 h)
theorem step_new {o : List ByteArray} {v : ByteArray} (h : ¬ (v = star ∨ v ∈ o)) : step o v = o ++ [v] := by
  unfold step
  rw [if_neg]
  rintro (h1 | h1)
  · exact h (.inl ((data_inj _ _).1 h1))
  · exact h (.inr ((data_mem o v).1 h1))
theorem step_cases (o : List ByteArray) (v : ByteArray) : ((v = star ∨ v ∈ o) ∧ step o v = o) ∨ (¬ (v = star ∨ v ∈ o) ∧ step o v = o ++ [v]) :=
  (Classical.em (v = star ∨ v ∈ o)).elim (fun h => .inl ⟨h, step_old h⟩) (fun h => .inr ⟨h, step_new h⟩)
/-- o, and behind it the values of vs but "*" that it does not yet hold, in the order in which they first come. -/
def fs (o vs : List ByteArray) : List ByteArray := vs.foldl step o

theorem fs_take (o vs : List ByteArray) (k : Nat) (h : k < vs.length) : fs o (vs.take (k + 1)) = step (fs o (vs.take k)) vs[k] := by
  rw [fs, List.take_succ_eq_append_getElem h, List.foldl_append]
  rfl
theorem step_mem (o : List ByteArray) (v x : ByteArray) : x ∈ step o v ↔ x ∈ o ∨ (x = v ∧ x ≠ star) := by
  rcases step_cases o v with ⟨h, e⟩ | ⟨h, e⟩ <;> rw [e]
  · constructor
    · exact .inl
    · rintro (h1 | ⟨rfl, h2⟩)
      · exact h1
      · exact h.resolve_left h2
  · rw [List.mem_append, List.mem_singleton]
    constructor
    · rintro (h1 | rfl)
      · exact .inl h1
      · exact .inr ⟨rfl, fun e => h (.inl e)⟩
    · rintro (h1 | h1)
      · exact .inl h1
      · exact .inr h1.1
theorem fs_mem (vs : List ByteArray) : ∀ (o : List ByteArray) (x : ByteArray), x ∈ fs o vs ↔ x ∈ o ∨ (x ∈ vs ∧ x ≠ star) := by
  induction vs with
  | nil => intro o x; simp [fs]
  | cons v vs ih =>
    intro o x
    show x ∈ fs (step o v) vs ↔ _
    rw [ih, step_mem, List.mem_cons]
    constructor
    · rintro ((h | h) | h)
      · exact .inl h
      · exact .inr ⟨.inl h.1, h.2⟩
      · exact .inr ⟨.inr h.1, h.2⟩
    · rintro (h | ⟨h | h, h2⟩)
      · exact .inl (.inl h)
      · exact .inl (.inr ⟨h, h2⟩)
      · exact .inr ⟨h, h2⟩
theorem step_nodup (o : List ByteArray) (v : ByteArray) (h : o.Nodup) : (step o v).Nodup := by
  rcases step_cases o v with ⟨hv, e⟩ | ⟨hv, e⟩ <;> rw [e]
  · exact h
  · rw [List.nodup_append]
    exact ⟨h, by simp, fun a ha b hb => by rw [List.mem_singleton] at hb; rintro rfl; exact hv (.inr (hb ▸ ha))⟩
theorem fs_nodup (vs : List ByteArray) : ∀ (o : List ByteArray), o.Nodup → (fs o vs).Nodup := by
  induction vs with
  | nil => intro o h; exact h
  | cons v vs ih => intro o h; exact ih _ (step_nodup o v h)
theorem step_length (o : List ByteArray) (v : ByteArray) : (step o v).length ≤ o.length + 1 := by
  rcases step_cases o v with ⟨hv, e⟩ | ⟨hv, e⟩ <;> rw [e] <;> simp
theorem fs_length (vs : List ByteArray) : ∀ (o : List ByteArray), (fs o vs).length ≤ o.length + vs.length := by
  induction vs with
  | nil => intro o; simp [fs]
  | cons v vs ih =>
    intro o
    have h1 := ih (step o v)
    have h2 := step_length o v
    show (fs (step o v) vs).length ≤ _
    rw [List.length_cons]
    omega
theorem step_get (o : List ByteArray) (v : ByteArray) {i : Nat} {x : ByteArray} (h : o[i]? = some x) : (step o v)[i]? = some x := by
  rcases step_cases o v with ⟨hv, e⟩ | ⟨hv, e⟩ <;> rw [e]
  · exact h
  · rw [List.getElem?_append_left (List.getElem?_eq_some_iff.1 h).1]; exact h
/-- What is numbered keeps its number. -/
theorem fs_get (vs : List ByteArray) : ∀ (o : List ByteArray) {i : Nat} {x : ByteArray}, o[i]? = some x → (fs o vs)[i]? = some x := by
  induction vs with
  | nil => intro o i x h; exact h
  | cons v vs ih => intro o i x h; exact ih _ (step_get o v h)
theorem nodup_get {l : List ByteArray} (h : l.Nodup) {i j : Nat} {x : ByteArray} (hi : l[i]? = some x) (hj : l[j]? = some x) : i = j := by
  obtain ⟨h1, e1⟩ := List.getElem?_eq_some_iff.1 hi
  obtain ⟨h2, e2⟩ := List.getElem?_eq_some_iff.1 hj
  exact (List.getElem_inj h).1 (e1.trans e2.symm)

/-- zs are the numbers, in ord, of vs' values but "*". -/
def Numbers (ord vs : List ByteArray) (zs : List Int) : Prop := ∀ z, z ∈ zs ↔ ∃ i x, z = ((i : Nat) : Int) ∧ ord[i]? = some x ∧ x ∈ vs

/-- The list of what has been numbered: no value twice, no "*". -/
structure Good (ord : List ByteArray) : Prop where
  nodup : ord.Nodup
  nostar : star ∉ ord
theorem Good.nil : Good [] := ⟨List.nodup_nil, by simp⟩
theorem Good.step {ord : List ByteArray} (h : Good ord) (v : ByteArray) : Good (step ord v) :=
  ⟨step_nodup _ _ h.nodup, fun hm => by
    rcases (step_mem ord v star).1 hm with h1 | h1
    · exact h.nostar h1
    · exact h1.2 rfl⟩
theorem Good.fs {ord : List ByteArray} (h : Good ord) (vs : List ByteArray) : Good (fs ord vs) :=
  ⟨fs_nodup _ _ h.nodup, fun hm => by
    rcases (fs_mem vs ord star).1 hm with h1 | h1
    · exact h.nostar h1
    · exact h1.2 rfl⟩

theorem Numbers.nil (ord : List ByteArray) : Numbers ord [] [] := fun z => by simp
/-- "*" has no number. -/
theorem Numbers.star {ord vs : List ByteArray} {zs : List Int} (g : Good ord) (h : Numbers ord vs zs) : Numbers (QLaw.step ord QLaw.star) (vs ++ [QLaw.star]) zs := fun z => by
  have e : QLaw.step ord QLaw.star = ord := step_old (.inl rfl)
  rw [e, h z]
  constructor
  · rintro ⟨i, x, h1, h2, h3⟩
    exact ⟨i, x, h1, h2, List.mem_append_left _ h3⟩
  · rintro ⟨i, x, h1, h2, h3⟩
    refine ⟨i, x, h1, h2, ?_⟩
    rcases List.mem_append.1 h3 with h4 | h4
    · exact h4
    · rw [List.mem_singleton] at h4
      exact absurd (List.mem_of_getElem? (h4 ▸ h2)) g.nostar
/-- A value that has number i. -/
theorem Numbers.seen {ord vs : List ByteArray} {zs : List Int} (g : Good ord) (h : Numbers ord vs zs) {i : Nat} {v : ByteArray} (hi : ord[i]? = some v) : Numbers (QLaw.step ord v) (vs ++ [v]) (zs ++ [(i : Int)]) := fun z => by
  have e : QLaw.step ord v = ord := step_old (.inr (List.mem_of_getElem? hi))
  rw [e, List.mem_append, h z, List.mem_singleton]
  constructor
  · rintro (⟨j, x, h1, h2, h3⟩ | rfl)
    · exact ⟨j, x, h1, h2, List.mem_append_left _ h3⟩
    · exact ⟨i, v, rfl, hi, by simp⟩
  · rintro ⟨j, x, h1, h2, h3⟩
    rcases List.mem_append.1 h3 with h4 | h4
    · exact .inl ⟨j, x, h1, h2, h4⟩
    · rw [List.mem_singleton] at h4
      right
      rw [h1, nodup_get g.nodup h2 (h4 ▸ hi)]
/-- A value that is met for the first time. -/
theorem Numbers.fresh {ord vs : List ByteArray} {zs : List Int} (h : Numbers ord vs zs) {v : ByteArray} (hv : v ≠ QLaw.star) (hn : v ∉ ord) :
    Numbers (QLaw.step ord v) (vs ++ [v]) (zs ++ [(ord.length : Int)]) := fun z => by
  have e : QLaw.step ord v = ord ++ [v] := step_new (by rintro (h | h); exact hv h; exact hn h)
  rw [e, List.mem_append, h z, List.mem_singleton]
  constructor
  · rintro (⟨j, x, h1, h2, h3⟩ | rfl)
    · exact ⟨j, x, h1, by rw [List.getElem?_append_left (List.getElem?_eq_some_iff.1 h2).1]; exact h2, List.mem_append_left _ h3⟩
    · exact ⟨ord.length, v, rfl, by simp, by simp⟩
  · rintro ⟨j, x, h1, h2, h3⟩
    by_cases hj : j < ord.length
    · rw [List.getElem?_append_left hj] at h2
      rcases List.mem_append.1 h3 with h4 | h4
      · exact .inl ⟨j, x, h1, h2, h4⟩
      · rw [List.mem_singleton] at h4
        exact absurd (List.mem_of_getElem? (h4 ▸ h2)) hn
    · have hj2 : j = ord.length := by
        have := (List.getElem?_eq_some_iff.1 h2).1
        simp at this
        omega
      exact .inr (by rw [h1, hj2])
end Go.Proofs.Qxb6602790a.QLaw
