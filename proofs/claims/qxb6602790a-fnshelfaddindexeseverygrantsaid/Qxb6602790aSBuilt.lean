import Derived.Test.Qxb6602790aSMake
import Derived.Test.Qxb6602790aSClone2
namespace Go.Proofs.Qxb6602790a
open Go.RowKit Go.Deep SLaw

/-! ### sums and lengths -/
def sumTo (f : Nat → Nat) : Nat → Nat
  | 0 => 0
  | k + 1 => sumTo f k + f k
theorem sumTo_le (f : Nat → Nat) : ∀ {a b : Nat}, a ≤ b → sumTo f a ≤ sumTo f b
  | a, 0, h => by rw [show a = 0 by omega]; exact Nat.le_refl _
  | a, b + 1, h => by
    rcases Nat.lt_or_ge a (b + 1) with h1 | h1
    · have := sumTo_le f (a := a) (b := b) (by omega)
      simp only [sumTo]
      omega
    · rw [show a = b + 1 by omega]; exact Nat.le_refl _
/-- All listings of the first j sets; all grants of theirs that list none. -/
def allF (D : Dat) (j : Nat) : List (K × R) := (List.range j).flatMap fun j => upF (D.t j) (D.a j) (D.is j) j (D.gn j)
def allU (D : Dat) (j : Nat) : List (K × R) := (List.range j).flatMap fun j => upU (D.t j) (D.a j) j (D.gn j)
theorem allF_succ (D : Dat) (j : Nat) : allF D (j + 1) = allF D j ++ upF (D.t j) (D.a j) (D.is j) j (D.gn j) := by simp [allF, List.range_succ]
theorem allU_succ (D : Dat) (j : Nat) : allU D (j + 1) = allU D j ++ upU (D.t j) (D.a j) j (D.gn j) := by simp [allU, List.range_succ]
def idsOf (D : Dat) (j : Nat) : Nat := sumTo (D.inn j) (D.gn j)
/-- The lists are as long as their counts say. -/
def Lens (D : Dat) (n : Nat) : Prop := ∀ j, j < n → ∀ i, i < D.gn j → (D.is j i).length = D.inn j i
theorem upF_len {D : Dat} {n : Nat} (h : Lens D n) {j : Nat} (hj : j < n) : ∀ i, i ≤ D.gn j → (upF (D.t j) (D.a j) (D.is j) j i).length ≤ sumTo (D.inn j) i
  | 0, _ => by simp [upF, sumTo]
  | i + 1, hi => by
    have h1 := upF_len h hj i (by omega)
    rw [upF_succ, List.length_append, sumTo]
    have h2 : (gF (D.t j) (D.a j) (D.is j) j i).length ≤ D.inn j i := by
      unfold gF
      split
      · simp
      · rw [List.length_map, h j hj i (by omega)]; exact Nat.le_refl _
    omega
theorem allF_len {D : Dat} {n : Nat} (h : Lens D n) : ∀ j, j ≤ n → (allF D j).length ≤ sumTo (idsOf D) j
  | 0, _ => by simp [allF, sumTo]
  | j + 1, hj => by
    have h1 := allF_len h j (by omega)
    have h2 := upF_len h (j := j) (by omega) (D.gn j) (Nat.le_refl _)
    rw [allF_succ, List.length_append, sumTo]
    have h3 : idsOf D j = sumTo (D.inn j) (D.gn j) := rfl
    omega
theorem upU_len (T : Nat → ByteArray) (A : Nat → Bool) (n : Nat) : ∀ i, (upU T A n i).length ≤ i
  | 0 => by simp [upU]
  | i + 1 => by
    have h1 := upU_len T A n i
    rw [upU_succ, List.length_append]
    have h2 : (gU T A n i).length ≤ 1 := by unfold gU; split <;> simp
    omega
theorem allU_len (D : Dat) : ∀ j, (allU D j).length ≤ sumTo D.gn j
  | 0 => by simp [allU]
  | j + 1 => by
    have h1 := allU_len D j
    have h2 := upU_len (D.t j) (D.a j) j (D.gn j)
    rw [allU_succ, List.length_append, sumTo]
    omega
theorem partF_len {D : Dat} {n : Nat} (h : Lens D n) {j i : Nat} (hj : j < n) (hi : i ≤ D.gn j) : (allF D j ++ upF (D.t j) (D.a j) (D.is j) j i).length ≤ sumTo (idsOf D) n := by
  have h1 := allF_len h j (by omega)
  have h2 := upF_len h hj i hi
  have h3 := sumTo_le (D.inn j) hi
  have h4 := sumTo_le (idsOf D) (a := j + 1) (b := n) (by omega)
  rw [sumTo] at h4
  rw [List.length_append]
  have h5 : idsOf D j = sumTo (D.inn j) (D.gn j) := rfl
  omega
theorem partU_len (D : Dat) {n j i : Nat} (hj : j < n) (hi : i ≤ D.gn j) : (allU D j ++ upU (D.t j) (D.a j) j i).length ≤ sumTo D.gn n := by
  have h1 := allU_len D j
  have h2 := upU_len (D.t j) (D.a j) j i
  have h4 := sumTo_le D.gn (a := j + 1) (b := n) (by omega)
  rw [sumTo] at h4
  rw [List.length_append]
  omega

/-! ### what is stored -/
structure StoAt (w : World) (col : Nat → Nat) (D : Dat) (X : Adr) (j : Nat) (s : Sto) : Prop where
  nb : s.nb = D.nb j
  na : s.na = D.na j
  dp : s.dp = D.dp j
  ln : s.ln = D.ln j
  gn : s.gn = D.gn j
  lic : Strs w s.lp (D.ln j) (D.ls j)
  licc : ∀ b off, s.lp = some ⟨b, off, none⟩ → col b = 0 ∧ b < w.heap.size
  licn : s.lp = none ↔ X.lp j = none
  gr : ∃ ip ic, Grants w col s.gp (D.gn j) (D.t j) (D.a j) ip (D.inn j) ic (D.is j) ∧ ∀ i, i < D.gn j → (ip i = none ↔ X.ip j i = none) ∧ ∀ b off, ip i = some ⟨b, off, none⟩ → b < w.heap.size
theorem Grants.turn {w w' : World} {col col' : Nat → Nat} {gp : Option Addr} {gn : Nat} {T : Nat → ByteArray} {A : Nat → Bool} {ip : Nat → Option Addr} {inn ic : Nat → Nat} {IS : Nat → List ByteArray} (h : Grants w col gp gn T A ip inn ic IS) (ht : Turn col w w') (ag : ∀ b, b < w.heap.size → col' b = col b)
    (hb : ∀ i, i < gn → ∀ b off, ip i = some ⟨b, off, none⟩ → b < w.heap.size) : Grants w' col' gp gn T A ip inn ic IS :=
  ⟨fun i hi => by
    obtain ⟨b, e, hc, h1⟩ := h.cells i hi
    exact ⟨b, e, by rw [ag b (World.block_lt_of_cell? w _ (h1 0 (by omega))), hc], fun q hq => ht.cell hc (h1 q hq)⟩,
   fun i hi => ⟨ht.strs (fun b off e => (h.ids i hi).2 b off e) (h.ids i hi).1, fun b off e => by rw [ag b (hb i hi b off e)]; exact (h.ids i hi).2 b off e⟩⟩
theorem StoAt.turn {w w' : World} {col col' : Nat → Nat} {D : Dat} {X : Adr} {j : Nat} {s : Sto} (h : StoAt w col D X j s) (ht : Turn col w w') (ag : ∀ b, b < w.heap.size → col' b = col b) : StoAt w' col' D X j s := by
  obtain ⟨ip, ic, hg, hi⟩ := h.gr
  exact ⟨h.nb, h.na, h.dp, h.ln, h.gn, ht.strs (fun b off e => (h.licc b off e).1) h.lic, fun b off e => ⟨by rw [ag b (h.licc b off e).2]; exact (h.licc b off e).1, Nat.lt_of_lt_of_le (h.licc b off e).2 ht.size⟩, h.licn,
    ip, ic, hg.turn ht ag (fun i hi' => (hi i hi').2), fun i hi' => ⟨(hi i hi').1, fun b off e => Nat.lt_of_lt_of_le ((hi i hi').2 b off e) ht.size⟩⟩
theorem Turn.of_none {col : Nat → Nat} {w w' : World} (h : w.grownBy w' none) : Turn col w w' := (Turn.refl col w).grown h (fun x e => by cases e)
theorem Turn.below {col : Nat → Nat} {w w' : World} {B : Nat} (h : Turn col w w') (hl : ∀ b, b < B → col b = 0) (hB : B ≤ w.heap.size) : Below B w w' := ⟨h.os, h.tape, h.output, h.size, fun k hk => h.block k (by omega) (hl k hk)⟩

/-- THE SHELF, given the first j sets. -/
structure Built (wc wr : World) (B sb m1 m2 : Nat) (D : Dat) (X : Adr) (j : Nat) (col : Nat → Nat) (st : List Sto) : Prop where
  shelf : Shelf wr B sb m1 m2 col st (allF D j) (allU D j)
  len : st.length = j
  sto : ∀ j', j' < j → ∃ s, st[j']? = some s ∧ StoAt wr col D X j' s
  below : Below B wc wr
theorem Built.grown {wc wr w2 : World} {B sb m1 m2 : Nat} {D : Dat} {X : Adr} {j : Nat} {col : Nat → Nat} {st : List Sto} (h : Built wc wr B sb m1 m2 D X j col st) (hg : wr.grownBy w2 none) : Built wc w2 B sb m1 m2 D X j col st :=
  ⟨h.shelf.grown hg, h.len, fun j' hj' => by
    obtain ⟨s, e, hs⟩ := h.sto j' hj'
    exact ⟨s, e, hs.turn (Turn.of_none hg) (fun _ _ => rfl)⟩, h.below.trans ((Turn.of_none (col := col) hg).below h.shelf.low h.shelf.below)⟩
theorem Built.add {wc w2 w3 : World} {B sb m1 m2 : Nat} {D : Dat} {X : Adr} {j : Nat} {col : Nat → Nat} {st : List Sto} {s : Sto} (h : Built wc w2 B sb m1 m2 D X j col st) (hs : StoAt w2 col D X j s)
    (hn : Next w2 B sb m1 m2 col (st ++ [s]) (allF D j ++ upF (D.t j) (D.a j) (D.is j) j (D.gn j)) (allU D j ++ upU (D.t j) (D.a j) j (D.gn j)) w3) : ∃ col' st', Built wc w3 B sb m1 m2 D X (j + 1) col' st' := by
  obtain ⟨col', ag, sh, ht⟩ := hn
  refine ⟨col', st ++ [s], ⟨by rw [allF_succ, allU_succ]; exact sh, by rw [List.length_append, h.len]; rfl, fun j' hj' => ?_, h.below.trans (ht.below h.shelf.low h.shelf.below)⟩⟩
  by_cases e : j' = j
  · subst e
    exact ⟨s, by rw [List.getElem?_append_right (by rw [h.len]; exact Nat.le_refl _), h.len, Nat.sub_self]; rfl, hs.turn ht ag⟩
  · obtain ⟨s', e1, hs'⟩ := h.sto j' (by omega)
    exact ⟨s', by rw [List.getElem?_append_left (by rw [h.len]; omega)]; exact e1, hs'.turn ht ag⟩

/-! ### the row of grants that is handed to the shelf -/
def GgAt (w : World) (base : Nat) (D : Dat) (X : Adr) (j i : Nat) (f : Nat → Value) : Prop :=
  ∃ ip ic, (∀ q, q < 10 → f (i * 10 + q) = grantF (D.t j i) (D.a j i) (.slice ip (D.inn j i) ic) q) ∧ Strs w ip (D.inn j i) (D.is j i) ∧ (∀ b off, ip = some ⟨b, off, none⟩ → base ≤ b ∧ b < w.heap.size) ∧ (ip = none ↔ X.ip j i = none)
theorem GgAt.kept {w w' : World} {base : Nat} {D : Dat} {X : Adr} {j i : Nat} {f g : Nat → Value} {row : Option Nat} (h : GgAt w base D X j i f) (hg : w.grownBy w' row) (hr : ∀ b, row = some b → b < base) (hf : ∀ q, q < 10 → g (i * 10 + q) = f (i * 10 + q)) : GgAt w' base D X j i g := by
  obtain ⟨ip, ic, h1, h4, h5, h6⟩ := h
  refine ⟨ip, ic, fun q hq => (hf q hq).trans (h1 q hq), h4.kept hg (fun b off e e2 => ?_), fun b off e => ⟨(h5 b off e).1, Nat.lt_of_lt_of_le (h5 b off e).2 hg.size⟩, h6⟩
  have := hr b e2.symm
  have := (h5 b off e).1
  omega
structure GgRow (w1 wr : World) (gsb gn : Nat) (D : Dat) (X : Adr) (j i : Nat) : Prop where
  row : ∃ f, wr.rowIs gsb 59 (gn * 10) f ∧ ∀ i', i' < i → GgAt wr (gsb + 1) D X j i' f
  grown : w1.grownBy wr (some gsb)
  lt : gsb < w1.heap.size
theorem GgRow.later {w1 wr w2 : World} {gsb gn : Nat} {D : Dat} {X : Adr} {j i : Nat} (h : GgRow w1 wr gsb gn D X j i) (hg : wr.grownBy w2 none) : GgRow w1 w2 gsb gn D X j i := by
  obtain ⟨f, hr, hf⟩ := h.row
  exact ⟨⟨f, rowIs_grown hr hg (by simp), fun i' hi' => (hf i' hi').kept hg (fun b e => by cases e) (fun _ _ => rfl)⟩, grownBy_trans h.grown (grownBy_none hg), h.lt⟩
/-- The ten stores. -/
def put10 (w : World) (gsb o : Nat) (t : ByteArray) (a : Bool) (ids : Value) : World :=
  (((((((((w.setCell ⟨gsb, o, none⟩ (.string t)).setCell ⟨gsb, o + 1, none⟩ (.bool a)).setCell ⟨gsb, o + 2, none⟩ ids).setCell ⟨gsb, o + 3, none⟩ (.bool false)).setCell ⟨gsb, o + 4, none⟩ (.slice none 0 0)).setCell ⟨gsb, o + 5, none⟩ (.bool false)).setCell ⟨gsb, o + 6, none⟩ (.slice none 0 0)).setCell ⟨gsb, o + 7, none⟩ (.bool false)).setCell ⟨gsb, o + 8, none⟩ (.slice none 0 0)).setCell ⟨gsb, o + 9, none⟩ (.slice none 0 0)
theorem put10_grown (w : World) (gsb o : Nat) (t : ByteArray) (a : Bool) (ids : Value) : w.grownBy (put10 w gsb o t a ids) (some gsb) :=
  grownBy_setCell (grownBy_setCell (grownBy_setCell (grownBy_setCell (grownBy_setCell (grownBy_setCell (grownBy_setCell (grownBy_setCell (grownBy_setCell (grownBy_setCell (grownBy_refl _ _) _ _) _ _) _ _) _ _) _ _) _ _) _ _) _ _) _ _) _ _
theorem put10_row {w : World} {gsb n o : Nat} {f : Nat → Value} {t : ByteArray} {a : Bool} {ids : Value} (h : w.rowIs gsb 59 n f) : (put10 w gsb o t a ids).rowIs gsb 59 n (fun q => if o ≤ q ∧ q < o + 10 then grantF t a ids (q - o) else f q) := by
  refine ((((((((((h.set o (.string t)).set (o + 1) (.bool a)).set (o + 2) ids).set (o + 3) (.bool false)).set (o + 4) (.slice none 0 0)).set (o + 5) (.bool false)).set (o + 6) (.slice none 0 0)).set (o + 7) (.bool false)).set (o + 8) (.slice none 0 0)).set (o + 9) (.slice none 0 0)).congr (fun q _ => ?_)
  by_cases h1 : o ≤ q ∧ q < o + 10
  · rw [if_pos h1]
    obtain ⟨d, rfl⟩ : ∃ d, q = o + d := ⟨q - o, by omega⟩
    rw [Nat.add_sub_cancel_left]
    rcases (show d = 0 ∨ d = 1 ∨ d = 2 ∨ d = 3 ∨ d = 4 ∨ d = 5 ∨ d = 6 ∨ d = 7 ∨ d = 8 ∨ d = 9 by omega) with rfl | rfl | rfl | rfl | rfl | rfl | rfl | rfl | rfl | rfl <;> simp [grantF]
  · rw [if_neg h1]
    have e : ∀ d, d < 10 → q ≠ o + d := fun d hd e => h1 ⟨by omega, by omega⟩
    rw [if_neg (e 9 (by omega)), if_neg (e 8 (by omega)), if_neg (e 7 (by omega)), if_neg (e 6 (by omega)), if_neg (e 5 (by omega)), if_neg (e 4 (by omega)), if_neg (e 3 (by omega)), if_neg (e 2 (by omega)), if_neg (e 1 (by omega)), if_neg (show q ≠ o from e 0 (by omega))]
theorem GgRow.step {w1 wr w2 : World} {gsb gn : Nat} {D : Dat} {X : Adr} {j i : Nat} (h : GgRow w1 wr gsb gn D X j i) (hg : wr.grownBy w2 none) {ip : Option Addr} {ic : Nat} (hs : Strs w2 ip (D.inn j i) (D.is j i)) (hb : ∀ b off, ip = some ⟨b, off, none⟩ → wr.heap.size ≤ b ∧ b < w2.heap.size) (hn : ip = none ↔ X.ip j i = none) :
    GgRow w1 (put10 w2 gsb (i * 10) (D.t j i) (D.a j i) (.slice ip (D.inn j i) ic)) gsb gn D X j (i + 1) := by
  obtain ⟨f, hr, hf⟩ := h.row
  have hsz : gsb < wr.heap.size := Nat.lt_of_lt_of_le h.lt h.grown.size
  have g3 := put10_grown w2 gsb (i * 10) (D.t j i) (D.a j i) (.slice ip (D.inn j i) ic)
  refine ⟨⟨_, put10_row (rowIs_grown hr hg (by simp)), fun i' hi' => ?_⟩, grownBy_trans (grownBy_trans h.grown (grownBy_none hg)) g3, h.lt⟩
  by_cases e : i' = i
  · subst e
    refine ⟨ip, ic, fun q hq => ?_, hs.kept g3 (fun b off e => ?_), fun b off e => ⟨?_, Nat.lt_of_lt_of_le (hb b off e).2 g3.size⟩, hn⟩
    · show (if _ then _ else _) = _
      rw [if_pos (by omega), Nat.add_sub_cancel_left]
    · have := (hb b off e).1
      simp
      omega
    · have := (hb b off e).1
      omega
  · exact (hf i' (by omega)).kept (grownBy_trans (grownBy_none hg) g3) (fun b e => by injection e with e; omega) (fun q hq => by show (if _ then _ else _) = _; rw [if_neg (by omega)])
/-- The row, as the shelf wants it. -/
theorem GgRow.grants {w1 wr : World} {gsb : Nat} {D : Dat} {X : Adr} {j : Nat} {col : Nat → Nat} (h : GgRow w1 wr gsb (D.gn j) D X j (D.gn j)) (hc : ∀ b, gsb ≤ b → col b = 0) :
    ∃ ip ic, Grants wr col (some ⟨gsb, 0, none⟩) (D.gn j) (D.t j) (D.a j) ip (D.inn j) ic (D.is j) ∧ ∀ i, i < D.gn j → (ip i = none ↔ X.ip j i = none) ∧ ∀ b off, ip i = some ⟨b, off, none⟩ → b < wr.heap.size := by
  obtain ⟨f, hr, hf⟩ := h.row
  have hx : ∀ i, ∃ x : Option Addr × Nat, i < D.gn j → (∀ q, q < 10 → f (i * 10 + q) = grantF (D.t j i) (D.a j i) (.slice x.1 (D.inn j i) x.2) q) ∧ Strs wr x.1 (D.inn j i) (D.is j i) ∧ (∀ b off, x.1 = some ⟨b, off, none⟩ → gsb + 1 ≤ b ∧ b < wr.heap.size) ∧ (x.1 = none ↔ X.ip j i = none) := fun i => by
    by_cases hi : i < D.gn j
    · obtain ⟨ip, ic, h1⟩ := hf i hi
      exact ⟨(ip, ic), fun _ => h1⟩
    · exact ⟨(none, 0), fun h => absurd h hi⟩
  obtain ⟨I, hI⟩ := Classical.axiomOfChoice hx
  refine ⟨fun i => (I i).1, fun i => (I i).2, ⟨fun i hi => ⟨gsb, rfl, hc gsb (Nat.le_refl _), fun q hq => ?_⟩, fun i hi => ⟨(hI i hi).2.1, fun b off e => hc b (by have := ((hI i hi).2.2.1 b off e).1; omega)⟩⟩, fun i hi => ⟨(hI i hi).2.2.2, fun b off e => ((hI i hi).2.2.1 b off e).2⟩⟩
  rw [hr.cell (by omega), (hI i hi).1 q hq]
end Go.Proofs.Qxb6602790a
