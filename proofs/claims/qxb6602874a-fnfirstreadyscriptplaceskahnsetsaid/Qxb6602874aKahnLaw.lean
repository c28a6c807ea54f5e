namespace Go.Proofs.Qxb6602874a.KahnLaw

/-- A set that holds every component whose dependencies it holds. -/
def Closed (n : Nat) (L : Nat → Nat) (d : Nat → Nat → Nat) (C : Nat → Prop) : Prop := ∀ i, i < n → (∀ j, j < L i → C (d i j)) → C i
/-- p lies in every closed set that holds P0. -/
def Der (n : Nat) (L : Nat → Nat) (d : Nat → Nat → Nat) (P0 p : Nat → Bool) : Prop := ∀ C : Nat → Prop, (∀ i, P0 i = true → C i) → Closed n L d C → ∀ i, p i = true → C i

def put (p : Nat → Bool) (r : Nat) : Nat → Bool := fun i => if i = r then true else p i
theorem put_same (p : Nat → Bool) (r : Nat) : put p r r = true := by simp [put]
theorem put_other (p : Nat → Bool) (r i : Nat) (h : i ≠ r) : put p r i = p i := by simp [put, h]
theorem put_iff (p : Nat → Bool) (r i : Nat) : put p r i = true ↔ i = r ∨ p i = true := by
  by_cases h : i = r
  · simp [put, h]
  · simp [put, h]

theorem der_start (n : Nat) (L : Nat → Nat) (d : Nat → Nat → Nat) (P0 : Nat → Bool) : Der n L d P0 P0 := fun _ h _ i hi => h i hi
theorem der_put {n : Nat} {L : Nat → Nat} {d : Nat → Nat → Nat} {P0 p : Nat → Bool} {r : Nat} (h : Der n L d P0 p) (hr : r < n) (hd : ∀ j, j < L r → p (d r j) = true) : Der n L d P0 (put p r) := by
  intro C h0 hC i hi
  rcases (put_iff p r i).1 hi with rfl | h1
  · exact hC i hr (fun j hj => h C h0 hC _ (hd j hj))
  · exact h C h0 hC i h1

/-- Two sets that hold P0, are closed and lie in every such set, are one. -/
theorem same {n : Nat} {L : Nat → Nat} {d : Nat → Nat → Nat} {P0 p q : Nat → Bool} (hp : Der n L d P0 p) (hq : Der n L d P0 q) (sp : ∀ i, P0 i = true → p i = true) (sq : ∀ i, P0 i = true → q i = true)
    (cp : Closed n L d (fun i => p i = true)) (cq : Closed n L d (fun i => q i = true)) (i : Nat) : p i = q i := by
  have a := hp (fun i => q i = true) sq cq i
  have b := hq (fun i => p i = true) sp cp i
  cases hp' : p i <;> cases hq' : q i <;> simp_all

/-! ### How many are not placed -/
def unp (p : Nat → Bool) : Nat → Nat
  | 0 => 0
  | k + 1 => unp p k + if p k then 0 else 1
theorem unp_le (p : Nat → Bool) : ∀ k, unp p k ≤ k := by
  intro k
  induction k with
  | zero => exact Nat.le_refl _
  | succ k ih => rw [unp]; split <;> omega
theorem unp_put_ge (p : Nat → Bool) (r : Nat) : ∀ k, k ≤ r → unp (put p r) k = unp p k := by
  intro k
  induction k with
  | zero => intro _; rfl
  | succ k ih => intro h; rw [unp, unp, ih (by omega), put_other p r k (by omega)]
theorem unp_put (p : Nat → Bool) (r : Nat) (hp : p r = false) : ∀ k, r < k → unp (put p r) k + 1 = unp p k := by
  intro k
  induction k with
  | zero => intro h; omega
  | succ k ih =>
    intro h
    rw [unp, unp]
    by_cases e : r = k
    · subst e; rw [unp_put_ge p r r (Nat.le_refl _), put_same, hp]; simp
    · rw [put_other p r k (by omega)]; have := ih (by omega); split <;> omega
theorem unp_pos (p : Nat → Bool) (r : Nat) (hp : p r = false) : ∀ k, r < k → 1 ≤ unp p k := by
  intro k h
  have := unp_put p r hp k h
  omega

/-! ### Counting along a row -/
/-- Of the first t dependencies those of which q holds. -/
def cntR (q : Nat → Bool) (e : Nat → Nat) : Nat → Nat
  | 0 => 0
  | t + 1 => cntR q e t + if q (e t) then 1 else 0
theorem cntR_le (q : Nat → Bool) (e : Nat → Nat) : ∀ t, cntR q e t ≤ t := by
  intro t
  induction t with
  | zero => exact Nat.le_refl _
  | succ t ih => rw [cntR]; split <;> omega
theorem cntR_zero (q : Nat → Bool) (e : Nat → Nat) : ∀ t, cntR q e t = 0 → ∀ j, j < t → q (e j) = false := by
  intro t
  induction t with
  | zero => intro _ j h; omega
  | succ t ih =>
    intro h j hj
    rw [cntR] at h
    by_cases e1 : j = t
    · subst e1; cases hq : q (e j) with
      | false => rfl
      | true => rw [hq] at h; simp at h
    · exact ih (by omega) j (by omega)
theorem cntR_all (q : Nat → Bool) (e : Nat → Nat) : ∀ t, (∀ j, j < t → q (e j) = false) → cntR q e t = 0 := by
  intro t
  induction t with
  | zero => intro _; rfl
  | succ t ih => intro h; rw [cntR, ih (fun j hj => h j (by omega)), h t (by omega)]; rfl
/-- One more is placed: what it takes off a count. -/
theorem cntR_put (K : Nat → Bool) (x : Nat) (hx : K x = false) (e : Nat → Nat) : ∀ t, cntR (fun y => !K y) e t = cntR (fun y => !put K x y) e t + cntR (fun y => y == x) e t := by
  intro t
  induction t with
  | zero => rfl
  | succ t ih =>
    rw [cntR, cntR, cntR, ih]
    by_cases h : e t = x
    · rw [h, hx, put_same]; simp; omega
    · have hb : (e t == x) = false := beq_eq_false_iff_ne.2 h
      rw [put_other K x (e t) h, hb]; simp; omega

/-! ### The queue -/
/-- What holds of the queue and the counts at every moment. -/
structure Queue (n : Nat) (P0 : Nat → Bool) (cnt : Nat → Nat) (Q : List Nat) : Prop where
  nodup : Q.Nodup
  mem : ∀ i, i ∈ Q ↔ i < n ∧ P0 i = false ∧ cnt i = 0

theorem nodup_inj {Q : List Nat} (h : Q.Nodup) (i j : Nat) (hi : i < Q.length) (hj : j < Q.length) (e : Q[i] = Q[j]) : i = j := by
  rcases Nat.lt_trichotomy i j with h1 | h1 | h1
  · exact absurd e (List.pairwise_iff_getElem.1 h i j hi hj h1)
  · exact h1
  · exact absurd e.symm (List.pairwise_iff_getElem.1 h j i hj hi h1)
theorem nodup_le : ∀ (n : Nat) (Q : List Nat), Q.Nodup → (∀ i ∈ Q, i < n) → Q.length ≤ n := by
  intro n
  induction n with
  | zero => intro Q _ h; cases Q with
    | nil => exact Nat.le_refl _
    | cons a l => exact absurd (h a (by simp)) (by omega)
  | succ n ih =>
    intro Q hn h
    by_cases e : n ∈ Q
    · have h1 := ih (Q.erase n) (hn.erase n) (fun i hi => by
        have h2 := h i (List.mem_of_mem_erase hi)
        have h3 : i ≠ n := fun e2 => by subst e2; exact absurd hi (List.Nodup.not_mem_erase hn)
        omega)
      rw [List.length_erase_of_mem e] at h1
      have : 0 < Q.length := List.length_pos_of_mem e
      omega
    · have := ih Q hn (fun i hi => by
        have h2 := h i hi
        have h3 : i ≠ n := fun e2 => by subst e2; exact e hi
        omega)
      omega

theorem Queue.length {n : Nat} {P0 : Nat → Bool} {cnt : Nat → Nat} {Q : List Nat} (h : Queue n P0 cnt Q) : Q.length ≤ n := nodup_le n Q h.nodup (fun i hi => ((h.mem i).1 hi).1)

/-- One count goes down. -/
def dec (cnt : Nat → Nat) (x : Nat) : Nat → Nat := fun i => if i = x then cnt x - 1 else cnt i
theorem dec_same (cnt : Nat → Nat) (x : Nat) : dec cnt x x = cnt x - 1 := by simp [dec]
theorem dec_other (cnt : Nat → Nat) (x i : Nat) (h : i ≠ x) : dec cnt x i = cnt i := by simp [dec, h]

theorem Queue.dec_hit {n : Nat} {P0 : Nat → Bool} {cnt : Nat → Nat} {Q : List Nat} (h : Queue n P0 cnt Q) {x : Nat} (hx : x < n) (hp : P0 x = false) (h1 : cnt x = 1) : Queue n P0 (dec cnt x) (Q ++ [x]) := by
  have hnot : x ∉ Q := fun hm => by have := ((h.mem x).1 hm).2.2; omega
  refine ⟨?_, fun i => ?_⟩
  · rw [List.nodup_append]
    exact ⟨h.nodup, by simp, fun a ha b hb => by simp at hb; subst hb; intro e; subst e; exact hnot ha⟩
  · rw [List.mem_append, h.mem i]
    by_cases e : i = x
    · subst e; simp [dec_same, h1, hx, hp]
    · simp [dec_other cnt x i e, e]
theorem Queue.dec_miss {n : Nat} {P0 : Nat → Bool} {cnt : Nat → Nat} {Q : List Nat} (h : Queue n P0 cnt Q) {x : Nat} (h1 : 2 ≤ cnt x) : Queue n P0 (dec cnt x) Q := by
  refine ⟨h.nodup, fun i => ?_⟩
  rw [h.mem i]
  by_cases e : i = x
  · subst e; rw [dec_same]; constructor <;> (intro ⟨_, _, h3⟩; omega)
  · rw [dec_other cnt x i e]

/-- WHAT HOLDS AT THE HEAD OF KAHN's LOOP. -/
structure Kahn (n : Nat) (L : Nat → Nat) (d : Nat → Nat → Nat) (P0 : Nat → Bool) (K : Nat → Bool) (cnt : Nat → Nat) (Q : List Nat) (h : Nat) : Prop where
  q : Queue n P0 cnt Q
  le : h ≤ Q.length
  set : ∀ x, K x = true ↔ P0 x = true ∨ x ∈ Q.take h
  num : ∀ w, w < n → P0 w = false → cnt w = cntR (fun y => !K y) (d w) (L w)
  der : Der n L d P0 K
/-- .. AND INSIDE IT: x has been taken, and of its dependents the first j. -/
structure Kahn9 (n : Nat) (L : Nat → Nat) (d : Nat → Nat → Nat) (P0 : Nat → Bool) (K : Nat → Bool) (cnt : Nat → Nat) (Q : List Nat) (h j : Nat) (X : List Nat) : Prop where
  q : Queue n P0 cnt Q
  le : h + 1 ≤ Q.length
  set : ∀ y, K y = true ↔ P0 y = true ∨ y ∈ Q.take (h + 1)
  num : ∀ w, w < n → P0 w = false → cnt w = cntR (fun y => !K y) (d w) (L w) + (X.drop j).count w
  der : Der n L d P0 K

/-- The list of x's dependents, each as often as it names x. -/
def Lists (n : Nat) (L : Nat → Nat) (d : Nat → Nat → Nat) (P0 : Nat → Bool) (X : Nat → List Nat) : Prop :=
  ∀ x, P0 x = false → ∀ w, (X x).count w = if w < n ∧ P0 w = false then cntR (fun y => y == x) (d w) (L w) else 0

theorem Kahn.head {n : Nat} {L : Nat → Nat} {d : Nat → Nat → Nat} {P0 K : Nat → Bool} {cnt : Nat → Nat} {Q : List Nat} {h : Nat} (k : Kahn n L d P0 K cnt Q h) (hl : h < Q.length) : Q.getD h 0 ∈ Q ∧ Q.getD h 0 < n ∧ P0 (Q.getD h 0) = false ∧ K (Q.getD h 0) = false := by
  have e : Q.getD h 0 = Q[h] := by rw [List.getD_eq_getElem?_getD, List.getElem?_eq_getElem hl]; rfl
  have hm : Q[h] ∈ Q := List.getElem_mem hl
  have h1 := (k.q.mem _).1 hm
  rw [e]
  refine ⟨hm, h1.1, h1.2.1, ?_⟩
  cases hk : K Q[h] with
  | false => rfl
  | true =>
    rcases (k.set _).1 hk with h2 | h2
    · rw [h1.2.1] at h2; cases h2
    · exfalso
      obtain ⟨i, hi, he⟩ := List.mem_iff_getElem.1 h2
      have hi' : i < h := by simp at hi; omega
      rw [List.getElem_take] at he
      have := nodup_inj k.q.nodup i h (by omega) hl he
      omega

theorem Kahn.enter {n : Nat} {L : Nat → Nat} {d : Nat → Nat → Nat} {P0 K : Nat → Bool} {cnt : Nat → Nat} {Q : List Nat} {h : Nat} {X : Nat → List Nat} (k : Kahn n L d P0 K cnt Q h) (hl : h < Q.length) (hX : Lists n L d P0 X) :
    Kahn9 n L d P0 (put K (Q.getD h 0)) cnt Q h 0 (X (Q.getD h 0)) := by
  obtain ⟨hm, hn, hp, hk⟩ := k.head hl
  have e : Q.getD h 0 = Q[h] := by rw [List.getD_eq_getElem?_getD, List.getElem?_eq_getElem hl]; rfl
  refine ⟨k.q, hl, fun y => ?_, fun w hw hpw => ?_, der_put k.der hn (fun j hj => ?_)⟩
  · rw [put_iff, k.set, List.take_succ_eq_append_getElem hl, List.mem_append, List.mem_singleton, e]
    constructor
    · rintro (h1 | h1 | h1)
      · exact .inr (.inr h1)
      · exact .inl h1
      · exact .inr (.inl h1)
    · rintro (h1 | h1 | h1)
      · exact .inr (.inl h1)
      · exact .inr (.inr h1)
      · exact .inl h1
  · rw [k.num w hw hpw, cntR_put K (Q.getD h 0) hk, List.drop_zero, hX _ hp w, if_pos ⟨hw, hpw⟩]
  · have h0 : cnt (Q.getD h 0) = 0 := ((k.q.mem _).1 hm).2.2
    have := cntR_zero _ _ _ ((k.num _ hn hp).symm.trans h0) j hj
    simpa using this

theorem Kahn9.leave {n : Nat} {L : Nat → Nat} {d : Nat → Nat → Nat} {P0 K : Nat → Bool} {cnt : Nat → Nat} {Q : List Nat} {h j : Nat} {X : List Nat} (k : Kahn9 n L d P0 K cnt Q h j X) (hj : X.length ≤ j) : Kahn n L d P0 K cnt Q (h + 1) :=
  ⟨k.q, k.le, k.set, fun w hw hp => by rw [k.num w hw hp, List.drop_of_length_le hj]; simp, k.der⟩

/-- The next dependent is a component that is not placed, and its count is not nought. -/
theorem Kahn9.next {n : Nat} {L : Nat → Nat} {d : Nat → Nat → Nat} {P0 K : Nat → Bool} {cnt : Nat → Nat} {Q : List Nat} {h j : Nat} {X : List Nat} (k : Kahn9 n L d P0 K cnt Q h j X) (hj : j < X.length) (hX : ∀ w ∈ X, w < n ∧ P0 w = false) :
    X.getD j 0 < n ∧ P0 (X.getD j 0) = false ∧ 1 ≤ cnt (X.getD j 0) := by
  have e : X.getD j 0 = X[j] := by rw [List.getD_eq_getElem?_getD, List.getElem?_eq_getElem hj]; rfl
  have h1 := hX _ (List.getElem_mem hj)
  rw [e]
  refine ⟨h1.1, h1.2, ?_⟩
  have h2 : 1 ≤ (X.drop j).count X[j] := by
    rw [List.drop_eq_getElem_cons hj, List.count_cons]
    simp
  have := k.num _ h1.1 h1.2
  omega

theorem Kahn9.bound {n : Nat} {L : Nat → Nat} {d : Nat → Nat → Nat} {P0 K : Nat → Bool} {cnt : Nat → Nat} {Q : List Nat} {h j : Nat} {X : List Nat} (k : Kahn9 n L d P0 K cnt Q h j X) {w : Nat} (hw : w < n) (hp : P0 w = false) : cnt w ≤ L w + X.length := by
  have a := k.num w hw hp
  have b := cntR_le (fun y => !K y) (d w) (L w)
  have c := List.count_le_length (a := w) (l := X.drop j)
  simp at c
  omega

theorem drop_count {X : List Nat} {j : Nat} (hj : j < X.length) (w : Nat) : (X.drop j).count w = (X.drop (j + 1)).count w + if w = X.getD j 0 then 1 else 0 := by
  have e : X.getD j 0 = X[j] := by rw [List.getD_eq_getElem?_getD, List.getElem?_eq_getElem hj]; rfl
  rw [List.drop_eq_getElem_cons hj, List.count_cons, e]
  by_cases h : X[j] = w
  · subst h; simp
  · have h2 : ¬ w = X[j] := fun e => h e.symm
    simp [h, h2]

theorem Kahn9.num_step {n : Nat} {L : Nat → Nat} {d : Nat → Nat → Nat} {P0 K : Nat → Bool} {cnt : Nat → Nat} {Q : List Nat} {h j : Nat} {X : List Nat} (k : Kahn9 n L d P0 K cnt Q h j X) (hj : j < X.length) :
    ∀ w, w < n → P0 w = false → dec cnt (X.getD j 0) w = cntR (fun y => !K y) (d w) (L w) + (X.drop (j + 1)).count w := by
  intro w hw hp
  have a := k.num w hw hp
  rw [drop_count hj w] at a
  by_cases e : w = X.getD j 0
  · rw [if_pos e] at a
    rw [e] at a ⊢
    rw [dec_same]; omega
  · rw [if_neg e] at a
    rw [dec_other _ _ _ e]; omega

theorem Kahn9.hit {n : Nat} {L : Nat → Nat} {d : Nat → Nat → Nat} {P0 K : Nat → Bool} {cnt : Nat → Nat} {Q : List Nat} {h j : Nat} {X : List Nat} (k : Kahn9 n L d P0 K cnt Q h j X) (hj : j < X.length) (hX : ∀ w ∈ X, w < n ∧ P0 w = false) (h1 : cnt (X.getD j 0) = 1) :
    Kahn9 n L d P0 K (dec cnt (X.getD j 0)) (Q ++ [X.getD j 0]) h (j + 1) X := by
  obtain ⟨a, b, _⟩ := k.next hj hX
  refine ⟨k.q.dec_hit a b h1, by simp; have := k.le; omega, fun y => ?_, k.num_step hj, k.der⟩
  rw [k.set, List.take_append_of_le_length k.le]
theorem Kahn9.miss {n : Nat} {L : Nat → Nat} {d : Nat → Nat → Nat} {P0 K : Nat → Bool} {cnt : Nat → Nat} {Q : List Nat} {h j : Nat} {X : List Nat} (k : Kahn9 n L d P0 K cnt Q h j X) (hj : j < X.length) (h1 : 2 ≤ cnt (X.getD j 0)) :
    Kahn9 n L d P0 K (dec cnt (X.getD j 0)) Q h (j + 1) X := ⟨k.q.dec_miss h1, k.le, k.set, k.num_step hj, k.der⟩

/-- At the end the set is closed. -/
theorem Kahn.closed {n : Nat} {L : Nat → Nat} {d : Nat → Nat → Nat} {P0 K : Nat → Bool} {cnt : Nat → Nat} {Q : List Nat} {h : Nat} (k : Kahn n L d P0 K cnt Q h) (he : Q.length ≤ h) : Closed n L d (fun i => K i = true) := by
  intro i hi hd
  cases hp : P0 i with
  | true => exact (k.set i).2 (.inl hp)
  | false =>
    refine (k.set i).2 (.inr ?_)
    rw [List.take_of_length_le he, k.q.mem]
    exact ⟨hi, hp, by rw [k.num i hi hp]; exact cntR_all _ _ _ (fun j hj => by simp [hd j hj])⟩

/-- The queue as it starts: after k components. -/
structure Starting (n k : Nat) (P0 : Nat → Bool) (cnt : Nat → Nat) (Q : List Nat) : Prop where
  nodup : Q.Nodup
  mem : ∀ i, i ∈ Q ↔ i < k ∧ P0 i = false ∧ cnt i = 0
theorem Starting.hit {n k : Nat} {P0 : Nat → Bool} {cnt : Nat → Nat} {Q : List Nat} (h : Starting n k P0 cnt Q) (hp : P0 k = false) (h0 : cnt k = 0) : Starting n (k + 1) P0 cnt (Q ++ [k]) := by
  have hnot : k ∉ Q := fun hm => by have := ((h.mem k).1 hm).1; omega
  refine ⟨?_, fun i => ?_⟩
  · rw [List.nodup_append]
    exact ⟨h.nodup, by simp, fun a ha b hb => by simp at hb; subst hb; intro e; subst e; exact hnot ha⟩
  · rw [List.mem_append, h.mem i, List.mem_singleton]
    constructor
    · rintro (⟨a, b, c⟩ | rfl)
      · exact ⟨by omega, b, c⟩
      · exact ⟨by omega, hp, h0⟩
    · rintro ⟨a, b, c⟩
      by_cases e : i = k
      · exact .inr e
      · exact .inl ⟨by omega, b, c⟩
theorem Starting.miss {n k : Nat} {P0 : Nat → Bool} {cnt : Nat → Nat} {Q : List Nat} (h : Starting n k P0 cnt Q) (hp : ¬ (P0 k = false ∧ cnt k = 0)) : Starting n (k + 1) P0 cnt Q := by
  refine ⟨h.nodup, fun i => ?_⟩
  rw [h.mem i]
  constructor
  · rintro ⟨a, b⟩; exact ⟨by omega, b⟩
  · rintro ⟨a, b⟩
    have : i ≠ k := fun e => by subst e; exact hp b
    exact ⟨by omega, b⟩
theorem Starting.length {n k : Nat} {P0 : Nat → Bool} {cnt : Nat → Nat} {Q : List Nat} (h : Starting n k P0 cnt Q) : Q.length ≤ k := nodup_le k Q h.nodup (fun i hi => ((h.mem i).1 hi).1)

theorem kahn_start {n : Nat} {L : Nat → Nat} {d : Nat → Nat → Nat} {P0 : Nat → Bool} {cnt : Nat → Nat} {Q : List Nat} (h : Starting n n P0 cnt Q) (hc : ∀ w, w < n → P0 w = false → cnt w = cntR (fun y => !P0 y) (d w) (L w)) : Kahn n L d P0 P0 cnt Q 0 :=
  ⟨⟨h.nodup, h.mem⟩, Nat.zero_le _, fun x => by simp, hc, der_start n L d P0⟩

/-! ### The counts and the lists while they are made: rows below i, and of row i the first j -/
def prog (L : Nat → Nat) (i j w : Nat) : Nat := if w < i then L w else if w = i then j else 0
theorem prog_row (L : Nat → Nat) (i w : Nat) : prog L i (L i) w = prog L (i + 1) 0 w := by
  unfold prog
  by_cases h : w < i
  · rw [if_pos h, if_pos (by omega)]
  · rw [if_neg h]
    by_cases e : w = i
    · subst e; rw [if_pos rfl, if_pos (by omega)]
    · rw [if_neg e, if_neg (by omega)]; split <;> rfl
theorem prog_same (L : Nat → Nat) (i j : Nat) : prog L i j i = j := by simp [prog]
theorem prog_other (L : Nat → Nat) (i j w : Nat) (h : w ≠ i) : prog L i j w = prog L i (j + 1) w := by simp [prog, h]

structure Making (n : Nat) (L : Nat → Nat) (d : Nat → Nat → Nat) (P0 : Nat → Bool) (i j : Nat) (cnt : Nat → Nat) (X : Nat → List Nat) : Prop where
  cnt : ∀ w, cnt w = if P0 w then 0 else cntR (fun y => !P0 y) (d w) (prog L i j w)
  lists : ∀ x w, (X x).count w = if P0 x = false ∧ P0 w = false then cntR (fun y => y == x) (d w) (prog L i j w) else 0

def bump (cnt : Nat → Nat) (i : Nat) : Nat → Nat := fun w => if w = i then cnt i + 1 else cnt w
def push (X : Nat → List Nat) (x i : Nat) : Nat → List Nat := fun y => if y = x then X x ++ [i] else X y

theorem making_start (n : Nat) (L : Nat → Nat) (d : Nat → Nat → Nat) (P0 : Nat → Bool) : Making n L d P0 0 0 (fun _ => 0) (fun _ => []) :=
  ⟨fun w => by simp [prog, cntR], fun x w => by simp [prog, cntR]⟩
theorem Making.row {n : Nat} {L : Nat → Nat} {d : Nat → Nat → Nat} {P0 : Nat → Bool} {i j : Nat} {cnt : Nat → Nat} {X : Nat → List Nat} (h : Making n L d P0 i j cnt X) (e : L i = j) : Making n L d P0 (i + 1) 0 cnt X := by
  subst e
  exact ⟨fun w => by rw [h.cnt w, prog_row], fun x w => by rw [h.lists x w, prog_row]⟩
/-- A row that is placed is passed over. -/
theorem Making.skip {n : Nat} {L : Nat → Nat} {d : Nat → Nat → Nat} {P0 : Nat → Bool} {i : Nat} {cnt : Nat → Nat} {X : Nat → List Nat} (h : Making n L d P0 i 0 cnt X) (hp : P0 i = true) : Making n L d P0 (i + 1) 0 cnt X := by
  have e : ∀ w, w ≠ i → prog L i 0 w = prog L (i + 1) 0 w := by
    intro w hw
    unfold prog
    by_cases h1 : w < i
    · rw [if_pos h1, if_pos (by omega)]
    · rw [if_neg h1, if_neg hw, if_neg (by omega)]; split <;> rfl
  refine ⟨fun w => ?_, fun x w => ?_⟩
  · by_cases hw : w = i
    · subst hw; rw [h.cnt w, hp]; simp
    · rw [h.cnt w, e w hw]
  · by_cases hw : w = i
    · subst hw; rw [h.lists x w, hp]; simp
    · rw [h.lists x w, e w hw]
theorem Making.hit {n : Nat} {L : Nat → Nat} {d : Nat → Nat → Nat} {P0 : Nat → Bool} {i j : Nat} {cnt : Nat → Nat} {X : Nat → List Nat} (h : Making n L d P0 i j cnt X) (hi : P0 i = false) (hd : P0 (d i j) = false) :
    Making n L d P0 i (j + 1) (bump cnt i) (push X (d i j) i) := by
  refine ⟨fun w => ?_, fun x w => ?_⟩
  · by_cases hw : w = i
    · subst hw
      have := h.cnt w
      simp only [bump, if_true, hi, Bool.false_eq_true, if_false, prog_same] at this ⊢
      rw [this, cntR, hd]; simp
    · simp only [bump, if_neg hw]; rw [h.cnt w, prog_other L i j w hw]
  · have hl := h.lists x w
    by_cases hw : w = i
    · subst hw
      rw [prog_same] at hl ⊢
      by_cases hx : x = d w j
      · subst hx
        simp only [push, if_true, List.count_append, hl, hd, hi, and_self, cntR]
        simp
      · have : (d w j == x) = false := beq_eq_false_iff_ne.2 (fun e => hx e.symm)
        simp only [push, if_neg hx, hl, cntR, this]
        simp
    · have e1 : (push X (d i j) i x).count w = (X x).count w := by
        unfold push
        by_cases hx : x = d i j
        · subst hx; rw [if_pos rfl, List.count_append]
          have : ([i].count w) = 0 := by rw [List.count_cons]; simp; exact fun e => hw e.symm
          omega
        · rw [if_neg hx]
      rw [e1, hl, prog_other L i j w hw]
theorem Making.miss {n : Nat} {L : Nat → Nat} {d : Nat → Nat → Nat} {P0 : Nat → Bool} {i j : Nat} {cnt : Nat → Nat} {X : Nat → List Nat} (h : Making n L d P0 i j cnt X) (hd : P0 (d i j) = true) : Making n L d P0 i (j + 1) cnt X := by
  refine ⟨fun w => ?_, fun x w => ?_⟩
  · by_cases hw : w = i
    · subst hw
      have := h.cnt w
      rw [prog_same] at this ⊢
      rw [this, cntR, hd]; simp
    · rw [h.cnt w, prog_other L i j w hw]
  · have hl := h.lists x w
    by_cases hw : w = i
    · subst hw
      rw [prog_same] at hl ⊢
      rw [hl]
      by_cases hx : P0 x = false
      · have hne : (d w j == x) = false := beq_eq_false_iff_ne.2 (fun e => by rw [e, hx] at hd; cases hd)
        rw [cntR, hne]; simp
      · simp [hx]
    · rw [hl, prog_other L i j w hw]
theorem Making.bound {n : Nat} {L : Nat → Nat} {d : Nat → Nat → Nat} {P0 : Nat → Bool} {i j : Nat} {cnt : Nat → Nat} {X : Nat → List Nat} (h : Making n L d P0 i j cnt X) (w : Nat) : cnt w ≤ prog L i j w := by
  rw [h.cnt w]; split
  · omega
  · exact cntR_le _ _ _
theorem prog_le (L : Nat → Nat) (i j w M : Nat) (hL : ∀ w, w < i → L w ≤ M) (hj : j ≤ M) : prog L i j w ≤ M := by
  unfold prog; split
  · exact hL w ‹_›
  · split <;> omega
theorem prog_end (L : Nat → Nat) (n w : Nat) : prog L n 0 w = if w < n then L w else 0 := by unfold prog; split; rfl; split <;> rfl
theorem Making.done {n : Nat} {L : Nat → Nat} {d : Nat → Nat → Nat} {P0 : Nat → Bool} {cnt : Nat → Nat} {X : Nat → List Nat} (h : Making n L d P0 n 0 cnt X) :
    (∀ w, w < n → P0 w = false → cnt w = cntR (fun y => !P0 y) (d w) (L w)) ∧ Lists n L d P0 X ∧ ∀ x, ∀ w ∈ X x, w < n ∧ P0 w = false := by
  refine ⟨fun w hw hp => ?_, fun x hx w => ?_, fun x w hw => ?_⟩
  · rw [h.cnt w, hp, prog_end, if_pos hw]; simp
  · rw [h.lists x w, prog_end]
    by_cases hw : w < n
    · simp [hx, hw]
    · simp [hw, cntR]
  · have hc : 0 < (X x).count w := List.count_pos_iff.2 hw
    rw [h.lists x w] at hc
    split at hc
    · rename_i hh
      refine ⟨?_, hh.2⟩
      rw [prog_end] at hc
      by_cases hw' : w < n
      · exact hw'
      · rw [if_neg hw'] at hc; simp [cntR] at hc
    · omega
/-- The lists' lengths: no more than all that was read. -/
theorem length_push (X : Nat → List Nat) (x i y M : Nat) (h : (X y).length ≤ M) : (push X x i y).length ≤ M + 1 := by
  unfold push; split
  · rename_i e; subst e; simp; exact h
  · omega

end Go.Proofs.Qxb6602874a.KahnLaw
