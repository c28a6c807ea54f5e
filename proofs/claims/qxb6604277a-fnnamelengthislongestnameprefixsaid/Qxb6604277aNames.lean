import Derived.Test.Qxb6604277aRows
import Derived.WalkKit
import Derived.WalkLawsBesides
import Derived.Below
namespace Go.Proofs.Qxb6604277a.Names
open Go.RowKit

/-- A letter or '_'. -/
def startB (c : Int) : Bool := decide ((97 ≤ c ∧ c ≤ 122) ∨ (65 ≤ c ∧ c ≤ 90) ∨ c = 95)
def contB (c : Int) : Bool := startB c || decide ((48 ≤ c ∧ c ≤ 57) ∨ c = 46)

theorem starts_yes (c : Int) (w : World) (h : startB c = true) : Calls Try.prog 8 #[.int .u8 c] w fun e w' => e = .returned (.bool true) ∧ w' = w := by
  simp only [startB, decide_eq_true_eq] at h
  by_cases h1 : 97 ≤ c ∧ c ≤ 122
  · obtain ⟨h1, h2⟩ := h1
    clear h
    go_enter Try.func8, Try.ntmps8
    go_wp2
    go_ret
    exact ⟨rfl, rfl⟩
  · by_cases h2 : 65 ≤ c ∧ c ≤ 90
    · obtain ⟨h2, h3⟩ := h2
      have g : c < 97 := by omega
      clear h h1
      go_enter Try.func8, Try.ntmps8
      go_wp2
      go_ret
      exact ⟨rfl, rfl⟩
    · obtain rfl : c = 95 := by omega
      clear h h1 h2
      go_enter Try.func8, Try.ntmps8
      go_wp2
      go_ret
      exact ⟨rfl, rfl⟩

theorem starts_no (c : Int) (w : World) (h : startB c = false) : Calls Try.prog 8 #[.int .u8 c] w fun e w' => e = .returned (.bool false) ∧ w' = w := by
  simp only [startB, decide_eq_false_iff_not] at h
  have h95 : (c == 95) = false := beq_eq_false_iff_ne.2 (by omega)
  by_cases a : 97 ≤ c
  · have b : 122 < c := by omega
    clear h
    go_enter Try.func8, Try.ntmps8
    go_wp2
    go_ret
    exact ⟨rfl, rfl⟩
  · by_cases b : 65 ≤ c
    · have d : 90 < c := by omega
      clear h
      go_enter Try.func8, Try.ntmps8
      go_wp2
      go_ret
      exact ⟨rfl, rfl⟩
    · clear h
      go_enter Try.func8, Try.ntmps8
      go_wp2
      go_ret
      exact ⟨rfl, rfl⟩

theorem cont_yes (c : Int) (w : World) (h : contB c = true) : Calls Try.prog 9 #[.int .u8 c] w fun e w' => e = .returned (.bool true) ∧ w' = w := by
  cases hs : startB c with
  | true =>
    have HS : Hid (startB c = true) := hs
    clear hs h
    go_enter Try.func9, Try.ntmps9
    go_wp2_with fail
    refine (starts_yes c _ HS.out).mono ?_
    rintro e w1 ⟨rfl, rfl⟩
    go_wp2
    go_ret
    exact ⟨rfl, rfl⟩
  | false =>
    have h2 : (48 ≤ c ∧ c ≤ 57) ∨ c = 46 := by simpa [contB, hs] using h
    have HS : Hid (startB c = false) := hs
    clear hs h
    by_cases d : 48 ≤ c ∧ c ≤ 57
    · obtain ⟨d1, d2⟩ := d
      clear h2
      go_enter Try.func9, Try.ntmps9
      go_wp2_with fail
      refine (starts_no c _ HS.out).mono ?_
      rintro e w1 ⟨rfl, rfl⟩
      go_wp2
      go_ret
      exact ⟨rfl, rfl⟩
    · obtain rfl : c = 46 := by omega
      clear h2 d
      go_enter Try.func9, Try.ntmps9
      go_wp2_with fail
      refine (starts_no 46 _ HS.out).mono ?_
      rintro e w1 ⟨rfl, rfl⟩
      go_wp2
      go_ret
      exact ⟨rfl, rfl⟩

theorem cont_no (c : Int) (w : World) (h : contB c = false) : Calls Try.prog 9 #[.int .u8 c] w fun e w' => e = .returned (.bool false) ∧ w' = w := by
  have hs : startB c = false := by simp [contB] at h; exact h.1
  have h2 : ¬ ((48 ≤ c ∧ c ≤ 57) ∨ c = 46) := by simpa [contB, hs] using h
  have HS : Hid (startB c = false) := hs
  have h46 : (c == 46) = false := beq_eq_false_iff_ne.2 (by omega)
  clear hs h
  by_cases a : 48 ≤ c
  · have b : decide (c ≤ 57) = false := by simp; omega
    clear h2
    go_enter Try.func9, Try.ntmps9
    go_wp2_with fail
    refine (starts_no c _ HS.out).mono ?_
    rintro e w1 ⟨rfl, rfl⟩
    go_wp2
    go_ret
    exact ⟨rfl, rfl⟩
  · clear h2
    go_enter Try.func9, Try.ntmps9
    go_wp2_with fail
    refine (starts_no c _ HS.out).mono ?_
    rintro e w1 ⟨rfl, rfl⟩
    go_wp2
    go_ret
    exact ⟨rfl, rfl⟩

/-- The byte at place j may stand there in a name. -/
def good (s : ByteArray) (j : Nat) : Bool := if j = 0 then startB ((s.data.toList.getD j 0).toNat : Int) else contB ((s.data.toList.getD j 0).toNat : Int)

theorem good_at (s : ByteArray) (k : Nat) (h : k < s.size) : good s k = if k = 0 then startB (s[k].toNat : Int) else contB (s[k].toNat : Int) := by
  have e : s.data.toList.getD k 0 = s[k] := by
    rw [List.getD_eq_getElem?_getD, List.getElem?_eq_getElem (by simpa using h)]; rfl
  unfold good
  rw [e]

theorem name_yes (p : ByteArray) (w : World) (hs : p.size ≤ 2097152) (hg : ∀ j, j < p.size → good p j = true) : Calls Try.prog 6 #[.string p] w fun e w' => e = .returned (.bool true) ∧ w' = w := by
  by_cases h0 : p.size = 0
  · have h0' : ((p.size : Int) == 0) = true := by simp [h0]
    clear h0 hg
    go_enter Try.func6, Try.ntmps6
    go_wp2
    go_ret
    exact ⟨rfl, rfl⟩
  · have h0' : ((p.size : Int) == 0) = false := by simp [h0]
    have hp : 0 < p.size := by omega
    have g0 : Hid (startB (p[0].toNat : Int) = true) := by have := hg 0 hp; rw [good_at p 0 hp, if_pos rfl] at this; exact this
    have HG : Hid (∀ j, j < p.size → good p j = true) := hg
    clear h0 hg
    go_enter Try.func6, Try.ntmps6
    go_wp2_with fail
    refine (starts_yes _ _ g0.out).mono ?_
    rintro e w1 ⟨rfl, rfl⟩
    go_wp2
    go_loop [3] (fun i => ∃ k : Nat, 1 ≤ k ∧ k ≤ p.size ∧ i = .int .i64 k) (fun i => p.size - (intOf i).toNat)
    case atStart => exact ⟨1, by omega, by omega, rfl⟩
    case round =>
      obtain ⟨k, hk1, hk, rfl⟩ := hrel
      by_cases hlt : k < p.size
      · have gk : Hid (contB (p[k].toNat : Int) = true) := by have := HG.out k hlt; rw [good_at p k hlt, if_neg (by omega)] at this; exact this
        go_wp2_with fail
        refine (cont_yes _ _ gk.out).mono ?_
        rintro e w1 ⟨rfl, rfl⟩
        go_wp2
        go_round
        case rel => exact ⟨k + 1, by omega, by omega, by go_num⟩
        case measure => simp [intOf]; omega
      · go_wp2
        go_ret
        exact ⟨rfl, rfl⟩

theorem name_no (p : ByteArray) (w : World) (hs : p.size ≤ 2097152) (m : Nat) (hm : m < p.size) (hb : good p m = false) (hg : ∀ j, j < m → good p j = true) : Calls Try.prog 6 #[.string p] w fun e w' => e = .returned (.bool false) ∧ w' = w := by
  have h0' : ((p.size : Int) == 0) = false := beq_eq_false_iff_ne.2 (by omega)
  have hp : 0 < p.size := by omega
  by_cases hm0 : m = 0
  · subst hm0
    have g0 : Hid (startB (p[0].toNat : Int) = false) := by rw [good_at p 0 hp, if_pos rfl] at hb; exact hb
    clear hb hg
    go_enter Try.func6, Try.ntmps6
    go_wp2_with fail
    refine (starts_no _ _ g0.out).mono ?_
    rintro e w1 ⟨rfl, rfl⟩
    go_wp2
    go_ret
    exact ⟨rfl, rfl⟩
  · have g0 : Hid (startB (p[0].toNat : Int) = true) := by have := hg 0 (by omega); rw [good_at p 0 hp, if_pos rfl] at this; exact this
    have HG : Hid (∀ j, j < m → good p j = true) := hg
    have HB : Hid (good p m = false) := hb
    clear hg hb
    go_enter Try.func6, Try.ntmps6
    go_wp2_with fail
    refine (starts_yes _ _ g0.out).mono ?_
    rintro e w1 ⟨rfl, rfl⟩
    go_wp2
    go_loop [3] (fun i => ∃ k : Nat, 1 ≤ k ∧ k ≤ m ∧ i = .int .i64 k) (fun i => p.size - (intOf i).toNat)
    case atStart => exact ⟨1, by omega, by omega, rfl⟩
    case round =>
      obtain ⟨k, hk1, hk, rfl⟩ := hrel
      have hlt : k < p.size := by omega
      by_cases hkm : k < m
      · have gk : Hid (contB (p[k].toNat : Int) = true) := by have := HG.out k hkm; rw [good_at p k hlt, if_neg (by omega)] at this; exact this
        go_wp2_with fail
        refine (cont_yes _ _ gk.out).mono ?_
        rintro e w1 ⟨rfl, rfl⟩
        go_wp2
        go_round
        case rel => exact ⟨k + 1, by omega, by omega, by go_num⟩
        case measure => simp [intOf]; omega
      · obtain rfl : k = m := by omega
        have gk : Hid (contB (p[k].toNat : Int) = false) := by have := HB.out; rw [good_at p k hlt, if_neg (by omega)] at this; exact this
        go_wp2_with fail
        refine (cont_no _ _ gk.out).mono ?_
        rintro e w1 ⟨rfl, rfl⟩
        go_wp2
        go_ret
        exact ⟨rfl, rfl⟩

theorem good_letter (s : ByteArray) (k : Nat) (h : k < s.size) (hl : (97 ≤ (s[k].toNat : Int) ∧ (s[k].toNat : Int) ≤ 122) ∨ (65 ≤ (s[k].toNat : Int) ∧ (s[k].toNat : Int) ≤ 90) ∨ (s[k].toNat : Int) = 95) : good s k = true := by
  have hs : startB (s[k].toNat : Int) = true := by simp only [startB, decide_eq_true_eq]; exact hl
  rw [good_at s k h]; split
  · exact hs
  · simp [contB, hs]
theorem good_digit (s : ByteArray) (k : Nat) (h : k < s.size) (hk : ¬ k = 0) (hl : (48 ≤ (s[k].toNat : Int) ∧ (s[k].toNat : Int) ≤ 57) ∨ (s[k].toNat : Int) = 46) : good s k = true := by
  rw [good_at s k h, if_neg hk]
  simp only [contB, Bool.or_eq_true, decide_eq_true_eq]; exact .inr hl
theorem not_good_first (s : ByteArray) (h : 0 < s.size) (hl : ¬ ((97 ≤ (s[0].toNat : Int) ∧ (s[0].toNat : Int) ≤ 122) ∨ (65 ≤ (s[0].toNat : Int) ∧ (s[0].toNat : Int) ≤ 90) ∨ (s[0].toNat : Int) = 95)) : good s 0 = false := by
  rw [good_at s 0 h, if_pos rfl]; simp only [startB, decide_eq_false_iff_not]; exact hl
theorem not_good (s : ByteArray) (k : Nat) (h : k < s.size) (hl : ¬ ((97 ≤ (s[k].toNat : Int) ∧ (s[k].toNat : Int) ≤ 122) ∨ (65 ≤ (s[k].toNat : Int) ∧ (s[k].toNat : Int) ≤ 90) ∨ (s[k].toNat : Int) = 95))
    (hd : ¬ ((48 ≤ (s[k].toNat : Int) ∧ (s[k].toNat : Int) ≤ 57) ∨ (s[k].toNat : Int) = 46)) : good s k = false := by
  have hs : startB (s[k].toNat : Int) = false := by simp only [startB, decide_eq_false_iff_not]; exact hl
  rw [good_at s k h]; split
  · exact hs
  · simp only [contB, hs, Bool.false_or, decide_eq_false_iff_not]; exact hd
theorem step_good {s : ByteArray} {k : Nat} (h : ∀ j, j < k → good s j = true) (g : good s k = true) : ∀ j, j < k + 1 → good s j = true := by
  intro j hj
  by_cases e : j = k
  · rw [e]; exact g
  · exact h j (by omega)

/-- nameLength: the first place that is not good, or the end. -/
def Len (s : ByteArray) (m : Nat) : Prop := m ≤ s.size ∧ (∀ j, j < m → good s j = true) ∧ (m < s.size → good s m = false)

set_option maxHeartbeats 3200000 in
theorem length_any (s : ByteArray) (w : World) (hs : s.size ≤ 2097152) : Calls Try.prog 7 #[.string s] w fun e w' => (∃ m : Nat, e = .returned (.int .i64 m) ∧ Len s m) ∧ w' = w := by
  go_enter Try.func7, Try.ntmps7
  go_wp2
  go_loop [8] (fun i => ∃ k : Nat, k ≤ s.size ∧ i = .int .i64 k ∧ Hid (∀ j, j < k → good s j = true)) (fun i => s.size - (intOf i).toNat)
  case atStart => exact ⟨0, by omega, rfl, fun j hj => absurd hj (by omega)⟩
  case round =>
    obtain ⟨k, hk, rfl, HG⟩ := hrel
    by_cases hlt : k < s.size
    · rcases (show (97 ≤ (s[k].toNat : Int) ∧ (s[k].toNat : Int) ≤ 122) ∨ (65 ≤ (s[k].toNat : Int) ∧ (s[k].toNat : Int) ≤ 90) ∨ ((s[k].toNat : Int) = 95) ∨ (48 ≤ (s[k].toNat : Int) ∧ (s[k].toNat : Int) ≤ 57) ∨ ((s[k].toNat : Int) = 46) ∨ ((s[k].toNat : Int) < 48 ∧ (s[k].toNat : Int) ≠ 46) ∨ (58 ≤ (s[k].toNat : Int) ∧ (s[k].toNat : Int) ≤ 64) ∨ (91 ≤ (s[k].toNat : Int) ∧ (s[k].toNat : Int) ≤ 96 ∧ (s[k].toNat : Int) ≠ 95) ∨ (123 ≤ (s[k].toNat : Int)) from by omega) with hc | hc | hc | hc | hc | hc | hc | hc | hc
      · have gk : Hid (good s k = true) := good_letter s k hlt (by omega)
        have t1 : (97 : Int) ≤ (s[k].toNat : Int) := by omega
        have t2 : (s[k].toNat : Int) ≤ 122 := by omega
        clear hc
        go_wp2
        go_round
        case rel => exact ⟨k + 1, by omega, by go_num, step_good HG.out gk.out⟩
        case measure => simp [intOf]; omega
      · have gk : Hid (good s k = true) := good_letter s k hlt (by omega)
        have t1 : decide ((97 : Int) ≤ (s[k].toNat : Int)) = false := decide_eq_false (by omega)
        have t3 : (65 : Int) ≤ (s[k].toNat : Int) := by omega
        have t4 : (s[k].toNat : Int) ≤ 90 := by omega
        clear hc
        go_wp2
        go_round
        case rel => exact ⟨k + 1, by omega, by go_num, step_good HG.out gk.out⟩
        case measure => simp [intOf]; omega
      · have gk : Hid (good s k = true) := good_letter s k hlt (by omega)
        have t1 : decide ((97 : Int) ≤ (s[k].toNat : Int)) = false := decide_eq_false (by omega)
        have t3 : (65 : Int) ≤ (s[k].toNat : Int) := by omega
        have t4 : decide ((s[k].toNat : Int) ≤ 90) = false := decide_eq_false (by omega)
        have t5 : ((s[k].toNat : Int) == 95) = true := beq_iff_eq.2 (by omega)
        clear hc
        go_wp2
        go_round
        case rel => exact ⟨k + 1, by omega, by go_num, step_good HG.out gk.out⟩
        case measure => simp [intOf]; omega
      · by_cases hk0 : k = 0
        · subst hk0
          have gk : Hid (good s 0 = false) := not_good_first s hlt (by omega)
          have t1 : decide ((97 : Int) ≤ (s[0].toNat : Int)) = false := decide_eq_false (by omega)
          have t3 : decide ((65 : Int) ≤ (s[0].toNat : Int)) = false := decide_eq_false (by omega)
          have t5 : ((s[0].toNat : Int) == 95) = false := beq_eq_false_iff_ne.2 (by omega)
          have t6 : (48 : Int) ≤ (s[0].toNat : Int) := by omega
          have t7 : (s[0].toNat : Int) ≤ 57 := by omega
          clear hc
          go_wp2
          go_ret
          exact ⟨⟨0, rfl, by omega, HG.out, fun _ => gk.out⟩, rfl⟩
        · have gk : Hid (good s k = true) := good_digit s k hlt hk0 (by omega)
          have hk0' : ((k : Int) == 0) = false := beq_eq_false_iff_ne.2 (by omega)
          have t1 : decide ((97 : Int) ≤ (s[k].toNat : Int)) = false := decide_eq_false (by omega)
          have t3 : decide ((65 : Int) ≤ (s[k].toNat : Int)) = false := decide_eq_false (by omega)
          have t5 : ((s[k].toNat : Int) == 95) = false := beq_eq_false_iff_ne.2 (by omega)
          have t6 : (48 : Int) ≤ (s[k].toNat : Int) := by omega
          have t7 : (s[k].toNat : Int) ≤ 57 := by omega
          clear hc
          go_wp2
          go_round
          case rel => exact ⟨k + 1, by omega, by go_num, step_good HG.out gk.out⟩
          case measure => simp [intOf]; omega
      · by_cases hk0 : k = 0
        · subst hk0
          have gk : Hid (good s 0 = false) := not_good_first s hlt (by omega)
          have t1 : decide ((97 : Int) ≤ (s[0].toNat : Int)) = false := decide_eq_false (by omega)
          have t3 : decide ((65 : Int) ≤ (s[0].toNat : Int)) = false := decide_eq_false (by omega)
          have t5 : ((s[0].toNat : Int) == 95) = false := beq_eq_false_iff_ne.2 (by omega)
          have t6 : decide ((48 : Int) ≤ (s[0].toNat : Int)) = false := decide_eq_false (by omega)
          have t8 : ((s[0].toNat : Int) == 46) = true := beq_iff_eq.2 (by omega)
          clear hc
          go_wp2
          go_ret
          exact ⟨⟨0, rfl, by omega, HG.out, fun _ => gk.out⟩, rfl⟩
        · have gk : Hid (good s k = true) := good_digit s k hlt hk0 (by omega)
          have hk0' : ((k : Int) == 0) = false := beq_eq_false_iff_ne.2 (by omega)
          have t1 : decide ((97 : Int) ≤ (s[k].toNat : Int)) = false := decide_eq_false (by omega)
          have t3 : decide ((65 : Int) ≤ (s[k].toNat : Int)) = false := decide_eq_false (by omega)
          have t5 : ((s[k].toNat : Int) == 95) = false := beq_eq_false_iff_ne.2 (by omega)
          have t6 : decide ((48 : Int) ≤ (s[k].toNat : Int)) = false := decide_eq_false (by omega)
          have t8 : ((s[k].toNat : Int) == 46) = true := beq_iff_eq.2 (by omega)
          clear hc
          go_wp2
          go_round
          case rel => exact ⟨k + 1, by omega, by go_num, step_good HG.out gk.out⟩
          case measure => simp [intOf]; omega
      · have gk : Hid (good s k = false) := not_good s k hlt (by omega) (by omega)
        have t1 : decide ((97 : Int) ≤ (s[k].toNat : Int)) = false := decide_eq_false (by omega)
        have t3 : decide ((65 : Int) ≤ (s[k].toNat : Int)) = false := decide_eq_false (by omega)
        have t5 : ((s[k].toNat : Int) == 95) = false := beq_eq_false_iff_ne.2 (by omega)
        have t6 : decide ((48 : Int) ≤ (s[k].toNat : Int)) = false := decide_eq_false (by omega)
        have t8 : ((s[k].toNat : Int) == 46) = false := beq_eq_false_iff_ne.2 (by omega)
        clear hc
        by_cases hk0 : k = 0
        · subst hk0
          go_wp2
          go_ret
          exact ⟨⟨0, rfl, by omega, HG.out, fun _ => gk.out⟩, rfl⟩
        · have hk0' : ((k : Int) == 0) = false := beq_eq_false_iff_ne.2 (by omega)
          go_wp2
          go_ret
          exact ⟨⟨k, rfl, by omega, HG.out, fun _ => gk.out⟩, rfl⟩
      · have gk : Hid (good s k = false) := not_good s k hlt (by omega) (by omega)
        have t1 : decide ((97 : Int) ≤ (s[k].toNat : Int)) = false := decide_eq_false (by omega)
        have t3 : decide ((65 : Int) ≤ (s[k].toNat : Int)) = false := decide_eq_false (by omega)
        have t5 : ((s[k].toNat : Int) == 95) = false := beq_eq_false_iff_ne.2 (by omega)
        have t6 : (48 : Int) ≤ (s[k].toNat : Int) := by omega
        have t7 : decide ((s[k].toNat : Int) ≤ 57) = false := decide_eq_false (by omega)
        have t8 : ((s[k].toNat : Int) == 46) = false := beq_eq_false_iff_ne.2 (by omega)
        clear hc
        by_cases hk0 : k = 0
        · subst hk0
          go_wp2
          go_ret
          exact ⟨⟨0, rfl, by omega, HG.out, fun _ => gk.out⟩, rfl⟩
        · have hk0' : ((k : Int) == 0) = false := beq_eq_false_iff_ne.2 (by omega)
          go_wp2
          go_ret
          exact ⟨⟨k, rfl, by omega, HG.out, fun _ => gk.out⟩, rfl⟩
      · have gk : Hid (good s k = false) := not_good s k hlt (by omega) (by omega)
        have t1 : decide ((97 : Int) ≤ (s[k].toNat : Int)) = false := decide_eq_false (by omega)
        have t3 : (65 : Int) ≤ (s[k].toNat : Int) := by omega
        have t4 : decide ((s[k].toNat : Int) ≤ 90) = false := decide_eq_false (by omega)
        have t5 : ((s[k].toNat : Int) == 95) = false := beq_eq_false_iff_ne.2 (by omega)
        have t6 : (48 : Int) ≤ (s[k].toNat : Int) := by omega
        have t7 : decide ((s[k].toNat : Int) ≤ 57) = false := decide_eq_false (by omega)
        have t8 : ((s[k].toNat : Int) == 46) = false := beq_eq_false_iff_ne.2 (by omega)
        clear hc
        by_cases hk0 : k = 0
        · subst hk0
          go_wp2
          go_ret
          exact ⟨⟨0, rfl, by omega, HG.out, fun _ => gk.out⟩, rfl⟩
        · have hk0' : ((k : Int) == 0) = false := beq_eq_false_iff_ne.2 (by omega)
          go_wp2
          go_ret
          exact ⟨⟨k, rfl, by omega, HG.out, fun _ => gk.out⟩, rfl⟩
      · have gk : Hid (good s k = false) := not_good s k hlt (by omega) (by omega)
        have t1 : (97 : Int) ≤ (s[k].toNat : Int) := by omega
        have t2 : decide ((s[k].toNat : Int) ≤ 122) = false := decide_eq_false (by omega)
        have t3 : (65 : Int) ≤ (s[k].toNat : Int) := by omega
        have t4 : decide ((s[k].toNat : Int) ≤ 90) = false := decide_eq_false (by omega)
        have t5 : ((s[k].toNat : Int) == 95) = false := beq_eq_false_iff_ne.2 (by omega)
        have t6 : (48 : Int) ≤ (s[k].toNat : Int) := by omega
        have t7 : decide ((s[k].toNat : Int) ≤ 57) = false := decide_eq_false (by omega)
        have t8 : ((s[k].toNat : Int) == 46) = false := beq_eq_false_iff_ne.2 (by omega)
        clear hc
        by_cases hk0 : k = 0
        · subst hk0
          go_wp2
          go_ret
          exact ⟨⟨0, rfl, by omega, HG.out, fun _ => gk.out⟩, rfl⟩
        · have hk0' : ((k : Int) == 0) = false := beq_eq_false_iff_ne.2 (by omega)
          go_wp2
          go_ret
          exact ⟨⟨k, rfl, by omega, HG.out, fun _ => gk.out⟩, rfl⟩
    · go_wp2
      go_ret
      exact ⟨⟨s.size, rfl, by omega, fun j hj => HG.out j (by omega), fun h => absurd h (by omega)⟩, rfl⟩
end Go.Proofs.Qxb6604277a.Names
