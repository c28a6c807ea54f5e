namespace Go.Proofs.Qxb6603002a.ValueLaw

/-- Where the string that is being read at 'i' ends: the place of its closing quote, or n. -/
def strE (D : Nat → Int) (n : Nat) : Nat → Nat → Nat
  | 0, _ => n
  | f + 1, i => if i < n then (if D i = 34 then i else if D i = 92 then strE D n f (i + 2) else strE D n f (i + 1)) else n

/-- Fuel enough is enough. -/
theorem strE_fuel (D : Nat → Int) (n : Nat) : ∀ f g i, n - i ≤ f → n - i ≤ g → strE D n f i = strE D n g i := by
  intro f
  induction f with
  | zero =>
    intro g i hf hg
    cases g with
    | zero => rfl
    | succ g => simp only [strE]; rw [if_neg (by omega)]
  | succ f ih =>
    intro g i hf hg
    cases g with
    | zero => simp only [strE]; rw [if_neg (by omega)]
    | succ g =>
      simp only [strE]
      rw [ih g (i + 2) (by omega) (by omega), ih g (i + 1) (by omega) (by omega)]

def SE (D : Nat → Int) (n i : Nat) : Nat := strE D n (n - i) i

theorem SE_end (D : Nat → Int) (n i : Nat) (h : ¬ i < n) : SE D n i = n := by
  unfold SE; rw [show n - i = 0 by omega]; rfl
theorem SE_quote (D : Nat → Int) (n i : Nat) (h : i < n) (q : D i = 34) : SE D n i = i := by
  unfold SE; rw [show n - i = (n - i - 1) + 1 by omega, strE, if_pos h, if_pos q]
theorem SE_slash (D : Nat → Int) (n i : Nat) (h : i < n) (q : D i = 92) : SE D n i = SE D n (i + 2) := by
  unfold SE; rw [show n - i = (n - i - 1) + 1 by omega, strE, if_pos h, if_neg (by omega), if_pos q, strE_fuel D n _ (n - (i + 2)) _ (by omega) (by omega)]
theorem SE_other (D : Nat → Int) (n i : Nat) (h : i < n) (q : ¬ D i = 34) (q2 : ¬ D i = 92) : SE D n i = SE D n (i + 1) := by
  unfold SE; rw [show n - i = (n - i - 1) + 1 by omega, strE, if_pos h, if_neg q, if_neg q2, strE_fuel D n _ (n - (i + 1)) _ (by omega) (by omega)]

theorem strE_bounds (D : Nat → Int) (n : Nat) : ∀ f i, strE D n f i ≤ n ∧ (i ≤ n → i ≤ strE D n f i) := by
  intro f
  induction f with
  | zero => intro i; exact ⟨Nat.le_refl _, fun h => h⟩
  | succ f ih =>
    intro i
    simp only [strE]
    by_cases h : i < n
    · rw [if_pos h]
      by_cases q : D i = 34
      · rw [if_pos q]; exact ⟨by omega, fun _ => Nat.le_refl _⟩
      · rw [if_neg q]
        by_cases q2 : D i = 92
        · rw [if_pos q2]; have := ih (i + 2)
          refine ⟨this.1, fun _ => ?_⟩
          by_cases h2 : i + 2 ≤ n
          · have := this.2 h2; omega
          · have hn : strE D n f (i + 2) = n := by cases f with
              | zero => rfl
              | succ f => simp only [strE]; rw [if_neg (by omega)]
            omega
        · rw [if_neg q2]; have := ih (i + 1); exact ⟨this.1, fun _ => by have := this.2 (by omega); omega⟩
    · rw [if_neg h]; exact ⟨Nat.le_refl _, fun h' => h'⟩

theorem SE_le (D : Nat → Int) (n i : Nat) : SE D n i ≤ n := (strE_bounds D n _ i).1
theorem SE_ge (D : Nat → Int) (n i : Nat) (h : i ≤ n) : i ≤ SE D n i := (strE_bounds D n _ i).2 h

/-- An opening, a closing bracket; a separator. -/
def isOpen (c : Int) : Bool := c == 123 || c == 91
def isClose (c : Int) : Bool := c == 125 || c == 93
def isSep (c : Int) : Bool := c == 44 || c == 32 || c == 9 || c == 13 || c == 10

/-- valueEnd's loop at place i, depth d. -/
def ve (D : Nat → Int) (n : Nat) : Nat → Nat → Nat → Nat
  | 0, _, _ => n
  | f + 1, i, d =>
    if i < n then
      if D i = 34 then (if d = 0 then SE D n (i + 1) + 1 else ve D n f (SE D n (i + 1) + 1) d)
      else if isOpen (D i) then ve D n f (i + 1) (d + 1)
      else if isClose (D i) then (if d = 0 then i else if d = 1 then i + 1 else ve D n f (i + 1) (d - 1))
      else if isSep (D i) then (if d = 0 then i else ve D n f (i + 1) d)
      else ve D n f (i + 1) d
    else n

theorem ve_fuel (D : Nat → Int) (n : Nat) : ∀ f g i d, n - i ≤ f → n - i ≤ g → ve D n f i d = ve D n g i d := by
  intro f
  induction f with
  | zero =>
    intro g i d hf hg
    cases g with
    | zero => rfl
    | succ g => simp only [ve]; rw [if_neg (by omega)]
  | succ f ih =>
    intro g i d hf hg
    cases g with
    | zero => simp only [ve]; rw [if_neg (by omega)]
    | succ g =>
      simp only [ve]
      by_cases h : i < n
      · have hs := SE_ge D n (i + 1) (by omega)
        rw [ih g (i + 1) (d + 1) (by omega) (by omega), ih g (i + 1) (d - 1) (by omega) (by omega), ih g (i + 1) d (by omega) (by omega), ih g (SE D n (i + 1) + 1) d (by omega) (by omega)]
      · rw [if_neg h, if_neg h]

def VE (D : Nat → Int) (n i d : Nat) : Nat := ve D n (n - i) i d

theorem VE_unfold (D : Nat → Int) (n i d : Nat) : VE D n i d =
    if i < n then
      if D i = 34 then (if d = 0 then SE D n (i + 1) + 1 else VE D n (SE D n (i + 1) + 1) d)
      else if isOpen (D i) then VE D n (i + 1) (d + 1)
      else if isClose (D i) then (if d = 0 then i else if d = 1 then i + 1 else VE D n (i + 1) (d - 1))
      else if isSep (D i) then (if d = 0 then i else VE D n (i + 1) d)
      else VE D n (i + 1) d
    else n := by
  by_cases h : i < n
  · have hs := SE_ge D n (i + 1) (by omega)
    unfold VE
    conv => lhs; rw [show n - i = (n - i - 1) + 1 by omega, ve]
    rw [ve_fuel D n (n - i - 1) (n - (i + 1)) (i + 1) (d + 1) (by omega) (by omega), ve_fuel D n (n - i - 1) (n - (i + 1)) (i + 1) (d - 1) (by omega) (by omega),
      ve_fuel D n (n - i - 1) (n - (i + 1)) (i + 1) d (by omega) (by omega), ve_fuel D n (n - i - 1) (n - (SE D n (i + 1) + 1)) (SE D n (i + 1) + 1) d (by omega) (by omega)]
  · rw [if_neg h]; unfold VE; rw [show n - i = 0 by omega]; rfl

theorem VE_end (D : Nat → Int) (n i d : Nat) (h : ¬ i < n) : VE D n i d = n := by rw [VE_unfold, if_neg h]
theorem VE_quote0 (D : Nat → Int) (n i : Nat) (h : i < n) (q : D i = 34) : VE D n i 0 = SE D n (i + 1) + 1 := by rw [VE_unfold, if_pos h, if_pos q, if_pos rfl]
theorem VE_quote (D : Nat → Int) (n i d : Nat) (h : i < n) (q : D i = 34) (hd : 0 < d) : VE D n i d = VE D n (SE D n (i + 1) + 1) d := by rw [VE_unfold, if_pos h, if_pos q, if_neg (by omega)]
theorem VE_open (D : Nat → Int) (n i d : Nat) (h : i < n) (q : D i = 123 ∨ D i = 91) : VE D n i d = VE D n (i + 1) (d + 1) := by
  rw [VE_unfold, if_pos h, if_neg (by omega), if_pos (by simp [isOpen]; omega)]
theorem VE_close0 (D : Nat → Int) (n i : Nat) (h : i < n) (q : D i = 125 ∨ D i = 93) : VE D n i 0 = i := by
  rw [VE_unfold, if_pos h, if_neg (by omega), if_neg (by simp [isOpen]; omega), if_pos (by simp [isClose]; omega), if_pos rfl]
theorem VE_close1 (D : Nat → Int) (n i : Nat) (h : i < n) (q : D i = 125 ∨ D i = 93) : VE D n i 1 = i + 1 := by
  rw [VE_unfold, if_pos h, if_neg (by omega), if_neg (by simp [isOpen]; omega), if_pos (by simp [isClose]; omega), if_neg (by omega), if_pos rfl]
theorem VE_close (D : Nat → Int) (n i d : Nat) (h : i < n) (q : D i = 125 ∨ D i = 93) : VE D n i (d + 2) = VE D n (i + 1) (d + 1) := by
  rw [VE_unfold, if_pos h, if_neg (by omega), if_neg (by simp [isOpen]; omega), if_pos (by simp [isClose]; omega), if_neg (by omega), if_neg (by omega)]; rfl
theorem VE_sep0 (D : Nat → Int) (n i : Nat) (h : i < n) (q : D i = 44 ∨ D i = 32 ∨ D i = 9 ∨ D i = 13 ∨ D i = 10) : VE D n i 0 = i := by
  rw [VE_unfold, if_pos h, if_neg (by omega), if_neg (by simp [isOpen]; omega), if_neg (by simp [isClose]; omega), if_pos (by simp [isSep]; omega), if_pos rfl]
/-- Inside a group every byte but a quote and a bracket is passed over. -/
theorem VE_pass (D : Nat → Int) (n i d : Nat) (h : i < n) (q : ¬ D i = 34 ∧ ¬ D i = 123 ∧ ¬ D i = 91 ∧ ¬ D i = 125 ∧ ¬ D i = 93) (hd : 0 < d) : VE D n i d = VE D n (i + 1) d := by
  rw [VE_unfold, if_pos h, if_neg (by omega), if_neg (by simp [isOpen]; omega), if_neg (by simp [isClose]; omega)]
  by_cases s : isSep (D i) = true
  · rw [if_pos s, if_neg (by omega)]
  · rw [if_neg s]
/-- Outside every group a byte that is neither a quote nor a bracket nor a separator is passed over. -/
theorem VE_plain (D : Nat → Int) (n i d : Nat) (h : i < n) (q : ¬ D i = 34 ∧ ¬ D i = 123 ∧ ¬ D i = 91 ∧ ¬ D i = 125 ∧ ¬ D i = 93)
    (s : ¬ D i = 44 ∧ ¬ D i = 32 ∧ ¬ D i = 9 ∧ ¬ D i = 13 ∧ ¬ D i = 10) : VE D n i d = VE D n (i + 1) d := by
  rw [VE_unfold, if_pos h, if_neg (by omega), if_neg (by simp [isOpen]; omega), if_neg (by simp [isClose]; omega), if_neg (by simp [isSep]; omega)]

theorem VE_le (D : Nat → Int) (n : Nat) : ∀ f i d, n - i ≤ f → VE D n i d ≤ n + 1 := by
  intro f
  induction f with
  | zero => intro i d h; rw [VE_end D n i d (by omega)]; omega
  | succ f ih =>
    intro i d hf
    rw [VE_unfold]
    have s1 := SE_le D n (i + 1)
    by_cases h : i < n
    · have s2 := SE_ge D n (i + 1) (by omega)
      rw [if_pos h]
      have a1 := ih (SE D n (i + 1) + 1) d (by omega)
      have a2 := ih (i + 1) (d + 1) (by omega)
      have a3 := ih (i + 1) (d - 1) (by omega)
      have a4 := ih (i + 1) d (by omega)
      repeat' split
      all_goals omega
    · rw [if_neg h]; omega
theorem VE_le' (D : Nat → Int) (n i d : Nat) : VE D n i d ≤ n + 1 := VE_le D n _ i d (Nat.le_refl _)

theorem VE_ge (D : Nat → Int) (n : Nat) : ∀ f i d, n - i ≤ f → i ≤ n → i ≤ VE D n i d := by
  intro f
  induction f with
  | zero => intro i d h hi; rw [VE_end D n i d (by omega)]; omega
  | succ f ih =>
    intro i d hf hi
    rw [VE_unfold]
    have s1 := SE_le D n (i + 1)
    by_cases h : i < n
    · have s2 := SE_ge D n (i + 1) (by omega)
      rw [if_pos h]
      have a2 := ih (i + 1) (d + 1) (by omega) (by omega)
      have a3 := ih (i + 1) (d - 1) (by omega) (by omega)
      have a4 := ih (i + 1) d (by omega) (by omega)
      have a1 : i ≤ VE D n (SE D n (i + 1) + 1) d := by
        by_cases e : SE D n (i + 1) + 1 ≤ n
        · have := ih (SE D n (i + 1) + 1) d (by omega) e; omega
        · rw [VE_end D n _ d (by omega)]; omega
      repeat' split
      all_goals omega
    · rw [if_neg h]; omega
theorem VE_ge' (D : Nat → Int) (n i d : Nat) (h : i ≤ n) : i ≤ VE D n i d := VE_ge D n _ i d (Nat.le_refl _) h

/-- Inside a group the end does not lie past n. -/
theorem VE_in (D : Nat → Int) (n : Nat) : ∀ f i d, n - i ≤ f → 0 < d → VE D n i d ≤ n := by
  intro f
  induction f with
  | zero => intro i d h _; rw [VE_end D n i d (by omega)]; omega
  | succ f ih =>
    intro i d hf hd
    rw [VE_unfold]
    have s1 := SE_le D n (i + 1)
    by_cases h : i < n
    · have s2 := SE_ge D n (i + 1) (by omega)
      rw [if_pos h]
      have a1 := ih (SE D n (i + 1) + 1) d (by omega) hd
      have a2 := ih (i + 1) (d + 1) (by omega) (by omega)
      have a4 := ih (i + 1) d (by omega) hd
      by_cases d1 : d = 1
      · repeat' split
        all_goals omega
      · have a3 := ih (i + 1) (d - 1) (by omega) (by omega)
        repeat' split
        all_goals omega
    · rw [if_neg h]; omega
theorem VE_in' (D : Nat → Int) (n i d : Nat) (h : 0 < d) : VE D n i d ≤ n := VE_in D n _ i d (Nat.le_refl _) h

/-- ONE GROUP AT A TIME: from depth d + 1 the innermost group's end, then on at depth d. -/
theorem VE_two (D : Nat → Int) (n : Nat) : ∀ f i d, n - i ≤ f → 0 < d → VE D n i (d + 1) = VE D n (VE D n i 1) d := by
  intro f
  induction f with
  | zero => intro i d h _; rw [VE_end D n i (d + 1) (by omega), VE_end D n i 1 (by omega), VE_end D n n d (by omega)]
  | succ f ih =>
    intro i d hf hd
    by_cases h : i < n
    · have s1 := SE_le D n (i + 1)
      have s2 := SE_ge D n (i + 1) (by omega)
      by_cases q : D i = 34
      · rw [VE_quote D n i (d + 1) h q (by omega), VE_quote D n i 1 h q (by omega)]; exact ih _ d (by omega) hd
      · by_cases o : D i = 123 ∨ D i = 91
        · rw [VE_open D n i (d + 1) h o, VE_open D n i 1 h o, ih (i + 1) (d + 1) (by omega) (by omega), ih (i + 1) 1 (by omega) (by omega)]
          by_cases e : i + 1 ≤ n
          · have g := VE_ge' D n (i + 1) 1 e
            exact ih _ d (by omega) hd
          · omega
        · by_cases c : D i = 125 ∨ D i = 93
          · rw [VE_close1 D n i h c]
            obtain ⟨e, rfl⟩ : ∃ e, d = e + 1 := ⟨d - 1, by omega⟩
            rw [VE_close D n i e h c]
          · rw [VE_pass D n i (d + 1) h (by omega) (by omega), VE_pass D n i 1 h (by omega) (by omega)]; exact ih (i + 1) d (by omega) hd
    · rw [VE_end D n i (d + 1) h, VE_end D n i 1 h, VE_end D n n d (by omega)]
theorem VE_two' (D : Nat → Int) (n i d : Nat) (h : 0 < d) : VE D n i (d + 1) = VE D n (VE D n i 1) d := VE_two D n _ i d (Nat.le_refl _) h

/-! ### The shift -/
theorem strE_shift (D : Nat → Int) (n s : Nat) (hs : s ≤ n) : ∀ f i, strE (fun j => D (s + j)) (n - s) f i + s = strE D n f (s + i) := by
  intro f
  induction f with
  | zero => intro i; simp only [strE]; omega
  | succ f ih =>
    intro i
    simp only [strE]
    by_cases h : i < n - s
    · rw [if_pos h, if_pos (by omega : s + i < n)]
      by_cases q : D (s + i) = 34
      · rw [if_pos q, if_pos q]; omega
      · rw [if_neg q, if_neg q]
        by_cases q2 : D (s + i) = 92
        · rw [if_pos q2, if_pos q2]; exact ih (i + 2)
        · rw [if_neg q2, if_neg q2]; exact ih (i + 1)
    · rw [if_neg h, if_neg (by omega)]; omega

theorem SE_shift (D : Nat → Int) (n s i : Nat) (hs : s ≤ n) : SE (fun j => D (s + j)) (n - s) i + s = SE D n (s + i) := by
  unfold SE; rw [strE_shift D n s hs, show n - s - i = n - (s + i) by omega]

theorem ve_shift (D : Nat → Int) (n s : Nat) (hs : s ≤ n) : ∀ f i d, ve (fun j => D (s + j)) (n - s) f i d + s = ve D n f (s + i) d := by
  intro f
  induction f with
  | zero => intro i d; simp only [ve]; omega
  | succ f ih =>
    intro i d
    have e := SE_shift D n s (i + 1) hs
    have e' : s + (i + 1) = s + i + 1 := by omega
    rw [e'] at e
    simp only [ve]
    by_cases h : i < n - s
    · rw [if_pos h, if_pos (by omega : s + i < n)]
      by_cases q : D (s + i) = 34
      · rw [if_pos q, if_pos q]
        by_cases d0 : d = 0
        · rw [if_pos d0, if_pos d0, ← e]; omega
        · rw [if_neg d0, if_neg d0, ← e, ih]; congr 1; omega
      · rw [if_neg q, if_neg q]
        by_cases o : isOpen (D (s + i)) = true
        · rw [if_pos o, if_pos o]; exact ih (i + 1) (d + 1)
        · rw [if_neg o, if_neg o]
          by_cases c : isClose (D (s + i)) = true
          · rw [if_pos c, if_pos c]
            by_cases d0 : d = 0
            · rw [if_pos d0, if_pos d0]; omega
            · rw [if_neg d0, if_neg d0]
              by_cases d1 : d = 1
              · rw [if_pos d1, if_pos d1]; omega
              · rw [if_neg d1, if_neg d1]; exact ih (i + 1) (d - 1)
          · rw [if_neg c, if_neg c]
            by_cases sp : isSep (D (s + i)) = true
            · rw [if_pos sp, if_pos sp]
              by_cases d0 : d = 0
              · rw [if_pos d0, if_pos d0]; omega
              · rw [if_neg d0, if_neg d0]; exact ih (i + 1) d
            · rw [if_neg sp, if_neg sp]; exact ih (i + 1) d
    · rw [if_neg h, if_neg (by omega)]; omega

theorem VE_shift (D : Nat → Int) (n s d : Nat) (hs : s ≤ n) : VE (fun j => D (s + j)) (n - s) 0 d + s = VE D n s d := by
  unfold VE; rw [ve_shift D n s hs]; rfl

/-! ### The string's end by runs of backslashes -/
/-- How many backslashes stand right ahead of p, counted back to q and not beyond: k of them at most are looked at. -/
def run (D : Nat → Int) (q : Nat) : Nat → Nat
  | 0 => 0
  | p + 1 => if q < p ∧ D p = 92 then run D q p + 1 else 0

theorem run_yes (D : Nat → Int) (q p : Nat) (h : q < p) (e : D p = 92) : run D q (p + 1) = run D q p + 1 := by rw [run, if_pos ⟨h, e⟩]
theorem run_no (D : Nat → Int) (q p : Nat) (e : ¬ D p = 92) : run D q (p + 1) = 0 := by rw [run, if_neg (fun h => e h.2)]
theorem run_start (D : Nat → Int) (q : Nat) : run D q (q + 1) = 0 := by rw [run, if_neg (fun h => absurd h.1 (by omega))]
theorem run_le (D : Nat → Int) (q : Nat) : ∀ p, run D q p ≤ p - 1 - q := by
  intro p
  induction p with
  | zero => simp [run]
  | succ p ih =>
    rw [run]
    split
    · omega
    · omega

/-- The first quote from p on that follows an even run. -/
def closeE (D : Nat → Int) (n q : Nat) : Nat → Nat → Nat
  | 0, _ => n
  | f + 1, p => if p < n then (if D p = 34 ∧ run D q p % 2 = 0 then p else closeE D n q f (p + 1)) else n

theorem close_eq (D : Nat → Int) (n q : Nat) : ∀ f i, n - i ≤ f → q < i → run D q i % 2 = 0 → SE D n i = closeE D n q f i := by
  intro f
  induction f using Nat.strongRecOn with
  | _ f ih =>
    intro i hf hq hr
    cases f with
    | zero => rw [SE_end D n i (by omega)]; rfl
    | succ f =>
      rw [closeE]
      by_cases h : i < n
      · rw [if_pos h]
        by_cases qq : D i = 34
        · rw [if_pos ⟨qq, hr⟩, SE_quote D n i h qq]
        · rw [if_neg (fun h => qq h.1)]
          by_cases sl : D i = 92
          · rw [SE_slash D n i h sl]
            have r1 := run_yes D q i hq sl
            cases f with
            | zero => rw [SE_end D n (i + 2) (by omega)]; rfl
            | succ f =>
              rw [closeE]
              by_cases h1 : i + 1 < n
              · rw [if_pos h1, if_neg (fun hh => by have := hh.2; omega)]
                refine ih f (by omega) (i + 2) (by omega) (by omega) ?_
                by_cases s1 : D (i + 1) = 92
                · rw [run_yes D q (i + 1) (by omega) s1]; omega
                · rw [run_no D q (i + 1) s1]
              · rw [if_neg h1, SE_end D n (i + 2) (by omega)]
          · rw [SE_other D n i h qq sl]
            exact ih f (by omega) (i + 1) (by omega) (by omega) (by rw [run_no D q i sl])
      · rw [if_neg h, SE_end D n i h]

theorem close_fuel (D : Nat → Int) (n q : Nat) : ∀ f g i, n - i ≤ f → n - i ≤ g → closeE D n q f i = closeE D n q g i := by
  intro f
  induction f with
  | zero =>
    intro g i hf hg
    cases g with
    | zero => rfl
    | succ g => simp only [closeE]; rw [if_neg (by omega)]
  | succ f ih =>
    intro g i hf hg
    cases g with
    | zero => simp only [closeE]; rw [if_neg (by omega)]
    | succ g => simp only [closeE]; rw [ih g (i + 1) (by omega) (by omega)]

def CL (D : Nat → Int) (n q p : Nat) : Nat := closeE D n q (n - p) p
theorem CL_end (D : Nat → Int) (n q p : Nat) (h : ¬ p < n) : CL D n q p = n := by unfold CL; rw [show n - p = 0 by omega]; rfl
theorem CL_hit (D : Nat → Int) (n q p : Nat) (h : p < n) (e : D p = 34) (r : run D q p % 2 = 0) : CL D n q p = p := by
  unfold CL; rw [show n - p = (n - p - 1) + 1 by omega, closeE, if_pos h, if_pos ⟨e, r⟩]
theorem CL_miss (D : Nat → Int) (n q p : Nat) (h : p < n) (e : ¬ (D p = 34 ∧ run D q p % 2 = 0)) : CL D n q p = CL D n q (p + 1) := by
  unfold CL; rw [show n - p = (n - p - 1) + 1 by omega, closeE, if_pos h, if_neg e, close_fuel D n q _ (n - (p + 1)) _ (by omega) (by omega)]
/-- THE TWO ENDS OF A STRING ARE ONE. -/
theorem CL_eq (D : Nat → Int) (n q : Nat) : CL D n q (q + 1) = SE D n (q + 1) := by
  unfold CL; rw [close_eq D n q (n - (q + 1)) (q + 1) (by omega) (by omega) (by rw [run_start])]

end Go.Proofs.Qxb6603002a.ValueLaw
