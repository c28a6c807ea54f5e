namespace Go.Proofs.Qxb6602790a.KeepLaw

/-- The word 'w' of the set that the scopes hold: each scope of that word is laid in by 'f'. -/
def heldAt (f : Int → Int → Int) (ss : List Int) (w : Int) : Int := ss.foldl (fun a s => if s / 64 = w then f a s else a) 0

theorem held_nil (f : Int → Int → Int) (w : Int) : heldAt f [] w = 0 := rfl

theorem held_snoc (f : Int → Int → Int) (ss : List Int) (k : Nat) (hk : k < ss.length) (w : Int) :
    heldAt f (ss.take (k + 1)) w = if ss.getD k 0 / 64 = w then f (heldAt f (ss.take k) w) (ss.getD k 0) else heldAt f (ss.take k) w := by
  rw [List.take_succ_eq_append_getElem hk]
  unfold heldAt
  rw [List.foldl_append]
  simp [List.getD_eq_getElem?_getD, List.getElem?_eq_getElem hk]

theorem held_hit (f : Int → Int → Int) (ss : List Int) (k : Nat) (hk : k < ss.length) (w : Int) (h : ss.getD k 0 / 64 = w) :
    heldAt f (ss.take (k + 1)) w = f (heldAt f (ss.take k) w) (ss.getD k 0) := by rw [held_snoc f ss k hk, if_pos h]

theorem held_miss (f : Int → Int → Int) (ss : List Int) (k : Nat) (hk : k < ss.length) (w : Int) (h : ¬ ss.getD k 0 / 64 = w) :
    heldAt f (ss.take (k + 1)) w = heldAt f (ss.take k) w := by rw [held_snoc f ss k hk, if_neg h]

theorem held_none (f : Int → Int → Int) (ss : List Int) (w : Int) : ∀ i, i ≤ ss.length → (∀ j, j < i → ¬ ss.getD j 0 / 64 = w) → heldAt f (ss.take i) w = 0 := by
  intro i
  induction i with
  | zero => intro _ _; rfl
  | succ i ih => intro hi h; rw [held_miss f ss i (by omega) w (h i (by omega))]; exact ih (by omega) (fun j hj => h j (by omega))

theorem held_rest (f : Int → Int → Int) (ss : List Int) (w : Int) (i : Nat) : ∀ m, i ≤ m → m ≤ ss.length → (∀ j, i ≤ j → j < m → ¬ ss.getD j 0 / 64 = w) → heldAt f (ss.take m) w = heldAt f (ss.take i) w := by
  intro m
  induction m with
  | zero => intro h _ _; rw [show i = 0 by omega]
  | succ m ih =>
    intro h hm hj
    by_cases e : i = m + 1
    · rw [e]
    · rw [held_miss f ss m (by omega) w (hj m (by omega) (by omega))]
      exact ih (by omega) (by omega) (fun j h1 h2 => hj j h1 (by omega))

/-- Rising. -/
def Rising (ss : List Int) (n : Nat) : Prop := ∀ k, k + 1 < n → ss.getD k 0 ≤ ss.getD (k + 1) 0

theorem rising_le {ss : List Int} {n : Nat} (h : Rising ss n) (i : Nat) : ∀ d, i + d < n → ss.getD i 0 ≤ ss.getD (i + d) 0 := by
  intro d
  induction d with
  | zero => intro _; exact Int.le_refl _
  | succ d ih => intro hd; exact Int.le_trans (ih (by omega)) (h (i + d) (by omega))

theorem rising_mono {ss : List Int} {n : Nat} (h : Rising ss n) {i j : Nat} (hij : i ≤ j) (hj : j < n) : ss.getD i 0 ≤ ss.getD j 0 := by
  have := rising_le h i (j - i) (by omega)
  rwa [show i + (j - i) = j by omega] at this

/-- Is any of the first k numbers not nought? -/
def anyNZ (g : Nat → Int) : Nat → Bool
  | 0 => false
  | k + 1 => anyNZ g k || g k != 0

theorem anyNZ_congr {g h : Nat → Int} : ∀ k, (∀ j, j < k → g j = h j) → anyNZ g k = anyNZ h k := by
  intro k
  induction k with
  | zero => intro _; rfl
  | succ k ih => intro e; rw [anyNZ, anyNZ, ih (fun j hj => e j (by omega)), e k (by omega)]

theorem anyNZ_of {g : Nat → Int} : ∀ k j, j < k → g j ≠ 0 → anyNZ g k = true := by
  intro k
  induction k with
  | zero => intro j h _; omega
  | succ k ih =>
    intro j h hj
    rw [anyNZ]
    by_cases e : j = k
    · subst e; simp [hj]
    · rw [ih j (by omega) hj]; rfl
theorem anyNZ_false {g : Nat → Int} : ∀ k, (∀ j, j < k → g j = 0) → anyNZ g k = false := by
  intro k
  induction k with
  | zero => intro _; rfl
  | succ k ih => intro h; rw [anyNZ, ih (fun j hj => h j (by omega)), h k (by omega)]; rfl

/-- The scopes of word k have been read: what the word holds, and where the next word's scopes begin. -/
theorem inner_exit (f : Int → Int → Int) (ss : List Int) (n q p : Nat) (k : Int) (hs : ss.length = n) (hup : Rising ss n) (hp : p ≤ n)
    (hq : ∀ j, q ≤ j → j < n → k ≤ ss.getD j 0 / 64) (hqp : q ≤ p) (hend : p < n → ¬ ss.getD p 0 / 64 = k) :
    heldAt f (ss.take p) k = heldAt f ss k ∧ (∀ j, p ≤ j → j < n → k + 1 ≤ ss.getD j 0 / 64) := by
  have h2 : ∀ j, p ≤ j → j < n → k + 1 ≤ ss.getD j 0 / 64 := by
    intro j h1 h2
    have a := rising_mono hup h1 h2
    have b := hq p hqp (by omega)
    have c := hend (by omega)
    omega
  refine ⟨?_, h2⟩
  have := held_rest f ss k p n hp (by omega) (fun j h1 h3 => by have := h2 j h1 h3; omega)
  rw [← this, ← hs, List.take_length]

/-- Nothing of word k lies among the first q. -/
theorem inner_start (f : Int → Int → Int) (ss : List Int) (q : Nat) (k : Int) (hq : q ≤ ss.length) (h : ∀ j, j < q → ss.getD j 0 / 64 < k) : heldAt f (ss.take q) k = 0 :=
  held_none f ss k q hq (fun j hj => by have := h j hj; omega)

theorem anyNZ_succ (g : Nat → Int) (k : Nat) : anyNZ g (k + 1) = (anyNZ g k || g k != 0) := rfl

end Go.Proofs.Qxb6602790a.KeepLaw
