import Derived.Test.Qxb6602790aQLaw
/-! THE PLAIN HALF of the law on shelf.add: no Go in this text. -/
namespace Go.Proofs.Qxb6602790a.SLaw
open QLaw

/-- A key: (resource type, identifier); in the unlisted index: (resource type, ""). -/
abbrev K := ByteArray × ByteArray
/-- (the grant's set, its place). -/
abbrev R := Nat × Nat

def same (a b : K) : Bool := decide (a.1.data = b.1.data) && decide (a.2.data = b.2.data)
theorem same_iff (a b : K) : same a b = true ↔ a = b := by
  unfold same
  rw [Bool.and_eq_true, decide_eq_true_eq, decide_eq_true_eq, data_inj, data_inj]
  exact ⟨fun ⟨h1, h2⟩ => Prod.ext h1 h2, fun h => by rw [h]; exact ⟨rfl, rfl⟩⟩
theorem same_self (a : K) : same a a = true := (same_iff a a).2 rfl
theorem same_ne {a b : K} (h : a ≠ b) : same a b = false := by
  cases e : same a b with
  | false => rfl
  | true => exact absurd ((same_iff a b).1 e) h

/-- What is listed under the key k, in order. -/
def refs (L : List (K × R)) (k : K) : List R := (L.filter (fun x => same x.1 k)).map (·.2)
theorem refs_nil (k : K) : refs [] k = [] := rfl
theorem refs_append (L M : List (K × R)) (k : K) : refs (L ++ M) k = refs L k ++ refs M k := by simp [refs]
theorem refs_one_same (k : K) (r : R) : refs [(k, r)] k = [r] := by simp [refs, same_self]
theorem refs_one_other {k k' : K} (r : R) (h : k' ≠ k) : refs [(k, r)] k' = [] := by simp [refs, same_ne (Ne.symm h)]
theorem refs_push_same (L : List (K × R)) (k : K) (r : R) : refs (L ++ [(k, r)]) k = refs L k ++ [r] := by rw [refs_append, refs_one_same]
theorem refs_push_other (L : List (K × R)) {k k' : K} (r : R) (h : k' ≠ k) : refs (L ++ [(k, r)]) k' = refs L k' := by rw [refs_append, refs_one_other r h, List.append_nil]

/-- ks: the keys of L, each once. -/
structure Seen (L : List (K × R)) (ks : List K) : Prop where
  nodup : ks.Nodup
  mem : ∀ k, k ∈ ks ↔ ∃ r, (k, r) ∈ L
theorem Seen.nil : Seen [] [] := ⟨List.nodup_nil, by simp⟩
theorem Seen.old {L : List (K × R)} {ks : List K} (h : Seen L ks) {k : K} (hk : k ∈ ks) (r : R) : Seen (L ++ [(k, r)]) ks := by
  refine ⟨h.nodup, fun k' => ?_⟩
  rw [h.mem]
  constructor
  · rintro ⟨r', h'⟩; exact ⟨r', List.mem_append_left _ h'⟩
  · rintro ⟨r', h'⟩
    rcases List.mem_append.1 h' with h' | h'
    · exact ⟨r', h'⟩
    · rw [List.mem_singleton] at h'
      injection h' with e _
      subst e
      exact (h.mem k').1 hk
theorem Seen.new {L : List (K × R)} {ks : List K} (h : Seen L ks) {k : K} (hk : k ∉ ks) (r : R) : Seen (L ++ [(k, r)]) (ks ++ [k]) := by
  refine ⟨List.nodup_append.2 ⟨h.nodup, by simp, fun a ha b hb => ?_⟩, fun k' => ?_⟩
  · rw [List.mem_singleton] at hb
    subst hb
    rintro rfl
    exact hk ha
  · rw [List.mem_append, h.mem]
    constructor
    · rintro (⟨r', h'⟩ | h')
      · exact ⟨r', List.mem_append_left _ h'⟩
      · rw [List.mem_singleton] at h'
        subst h'
        exact ⟨r, by simp⟩
    · rintro ⟨r', h'⟩
      rcases List.mem_append.1 h' with h' | h'
      · exact .inl ⟨r', h'⟩
      · rw [List.mem_singleton] at h'
        injection h' with e _
        subst e
        exact .inr (by simp)
/-- A key that is not among them has no listing. -/
theorem Seen.refs_none {L : List (K × R)} {ks : List K} (h : Seen L ks) {k : K} (hk : k ∉ ks) : refs L k = [] := by
  unfold refs
  rw [List.map_eq_nil_iff, List.filter_eq_nil_iff]
  rintro ⟨k', r⟩ hx hs
  have : k' = k := (same_iff _ _).1 hs
  subst this
  exact hk ((h.mem k').2 ⟨r, hx⟩)
/-- How many there are hangs on L alone. -/
theorem Seen.length {L : List (K × R)} {ks ks' : List K} (h : Seen L ks) (h' : Seen L ks') : ks.length = ks'.length := by
  apply List.Perm.length_eq
  rw [List.perm_ext_iff_of_nodup h.nodup h'.nodup]
  intro k
  rw [h.mem, h'.mem]

/-! ### the scan of all listings -/
theorem take_push {α : Type} (L : List α) (k : Nat) (h : k < L.length) : L.take (k + 1) = L.take k ++ [L[k]] := List.take_succ_eq_append_getElem h

/-- Position k's key has come before. -/
def Came (L : List (K × R)) (k m : Nat) (key : K) : Prop := ∃ i, ∃ h : i < L.length, i < m ∧ i < k ∧ L[i].1 = key
/-- The count of keys among the first k listings. -/
def Count (L : List (K × R)) (k n : Nat) : Prop := ∃ ks, Seen (L.take k) ks ∧ ks.length = n
theorem Count.zero (L : List (K × R)) : Count L 0 0 := ⟨[], Seen.nil, rfl⟩
theorem Count.old {L : List (K × R)} {k n : Nat} (h : Count L k n) (hk : k < L.length) (hm : ∃ i, ∃ h : i < L.length, i < k ∧ L[i].1 = L[k].1) : Count L (k + 1) n := by
  obtain ⟨ks, hs, hn⟩ := h
  refine ⟨ks, ?_, hn⟩
  rw [take_push L k hk]
  obtain ⟨i, hi, hik, e⟩ := hm
  have hmem : L[k].1 ∈ ks := (hs.mem _).2 ⟨L[i].2, by rw [← e]; exact List.mem_take_iff_getElem.2 ⟨i, by omega, rfl⟩⟩
  exact hs.old hmem L[k].2
theorem Count.new {L : List (K × R)} {k n : Nat} (h : Count L k n) (hk : k < L.length) (hm : ∀ i (h : i < L.length), i < k → L[i].1 ≠ L[k].1) : Count L (k + 1) (n + 1) ∧ refs (L.take k) L[k].1 = [] := by
  obtain ⟨ks, hs, hn⟩ := h
  have hnot : L[k].1 ∉ ks := fun hmem => by
    obtain ⟨r, hr⟩ := (hs.mem _).1 hmem
    obtain ⟨i, hi, e⟩ := List.mem_take_iff_getElem.1 hr
    exact hm i (by omega) (by omega) (by rw [e])
  refine ⟨⟨ks ++ [L[k].1], ?_, by rw [List.length_append, hn]; rfl⟩, hs.refs_none hnot⟩
  rw [take_push L k hk]
  exact hs.new hnot L[k].2
theorem Count.all {L : List (K × R)} {n : Nat} (h : Count L L.length n) {ks : List K} (hs : Seen L ks) : n = ks.length := by
  obtain ⟨ks', hs', hn⟩ := h
  rw [List.take_length] at hs'
  rw [← hn]
  exact hs'.length hs

/-- The inner scan: c listings of the key among the first m. -/
theorem refs_hit {L : List (K × R)} {m : Nat} {k : K} (hm : m < L.length) (e : L[m].1 = k) :
    (refs (L.take (m + 1)) k).length = (refs (L.take m) k).length + 1 ∧ (refs (L.take m) k).length < (refs L k).length ∧ (refs L k)[(refs (L.take m) k).length]? = some L[m].2 := by
  have h1 : refs (L.take (m + 1)) k = refs (L.take m) k ++ [L[m].2] := by
    rw [take_push L m hm, refs_append]
    congr 1
    subst e
    exact refs_one_same L[m].1 L[m].2
  have h2 : refs L k = refs (L.take m) k ++ L[m].2 :: refs (L.drop (m + 1)) k := by
    have := congrArg (fun l => refs l k) (List.take_append_drop (m + 1) L).symm
    simp only [refs_append] at this
    rw [this, h1]
    simp
  refine ⟨by rw [h1]; simp, by rw [h2]; simp, ?_⟩
  rw [h2, List.getElem?_append_right (Nat.le_refl _)]
  simp
theorem refs_miss {L : List (K × R)} {m : Nat} {k : K} (hm : m < L.length) (e : L[m].1 ≠ k) : refs (L.take (m + 1)) k = refs (L.take m) k := by
  rw [take_push L m hm]
  exact refs_push_other (k := L[m].1) (L.take m) L[m].2 (Ne.symm e)
theorem refs_none_take {L : List (K × R)} {m : Nat} {k : K} (hm : L.length ≤ m) : refs (L.take m) k = refs L k := by rw [List.take_of_length_le hm]
theorem refs_len (L : List (K × R)) (k : K) : (refs L k).length ≤ L.length := by
  unfold refs
  rw [List.length_map]
  exact List.length_filter_le _ _
end Go.Proofs.Qxb6602790a.SLaw
