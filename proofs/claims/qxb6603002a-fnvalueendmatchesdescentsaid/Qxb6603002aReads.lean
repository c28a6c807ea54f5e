import Derived.Test.Qxb6603002aRows
import Derived.Test.Qxb6603002aCommon
import Derived.Test.Qxb6603002aValueLaw
namespace Go.Proofs.Qxb6603002a
open Go.RowKit Go.Deep ValueLaw

/-- The bytes as they lie in memory. -/
structure Bytes (w : World) (a : Option Addr) (n b o : Nat) (D : Nat → Int) : Prop where
  top : 0 < n → a = some ⟨b, o, none⟩
  byte : ∀ i, i < n → w.cell? ⟨b, o + i, none⟩ = some (.int .u8 (D i))

theorem ret_int {k : IntKind} {a b : Int} (h : a = b) : Ending.returned (.int k a) = .returned (.int k b) := by rw [h]

set_option maxHeartbeats 1000000 in
set_option maxRecDepth 100000 in
theorem string_any (a : Option Addr) (n c b o : Nat) (D : Nat → Int) (q : Nat) (w : World) (hn : n ≤ 1048576) (hq : q < n) (hd : Bytes w a n b o D) :
    Calls Try.prog 24 #[.slice a n c, .int .i64 q] w fun e w' => e = .returned (.int .i64 (SE D n (q + 1) : Nat)) ∧ w' = w := by
  have HD : Hid (Bytes w a n b o D) := hd
  clear hd
  obtain rfl := HD.out.top (by omega)
  go_enter Try.func24, Try.ntmps24
  go_wp2
  go_loop [5] (fun t => ∃ i : Nat, i ≤ n + 1 ∧ t = .int .i64 i ∧ Hid (SE D n i = SE D n (q + 1))) (fun t => n + 1 - (intOf t).toNat)
  case atStart => exact ⟨q + 1, by omega, by go_num, rfl⟩
  case round =>
    obtain ⟨i, hi, rfl, HE⟩ := hrel
    by_cases hlt : i < n
    · have c1 := HD.out.byte i hlt
      have hii : (i : Int) < (n : Int) := by omega
      generalize hx : D i = x at *
      have HX : Hid (D i = x) := hx
      clear hx
      by_cases x34 : x = 34
      · have hb : (x != 34) = false := by simp [x34]
        have HEQ : Hid (SE D n (q + 1) = i) := by rw [← HE.out]; exact SE_quote D n i hlt (by rw [HX.out, x34])
        clear x34
        go_wp2
        go_ret
        exact ⟨by rw [HEQ.out]; first | rfl | simp [hlt, Nat.le_of_lt hlt], rfl⟩
      · have hb : (x != 34) = true := by simp [x34]
        by_cases x92 : x = 92
        · have hb2 : (x == 92) = true := beq_iff_eq.2 x92
          have HEQ : Hid (SE D n (i + 2) = SE D n (q + 1)) := by rw [← HE.out]; exact (SE_slash D n i hlt (by rw [HX.out, x92])).symm
          clear x34 x92
          go_wp2
          go_round
          case rel => exact ⟨i + 2, by omega, by go_num, HEQ.out⟩
          case measure => simp [intOf]; omega
        · have hb2 : (x == 92) = false := beq_eq_false_iff_ne.2 x92
          have HEQ : Hid (SE D n (i + 1) = SE D n (q + 1)) := by rw [← HE.out]; exact (SE_other D n i hlt (by rw [HX.out]; exact x34) (by rw [HX.out]; exact x92)).symm
          clear x34 x92
          go_wp2
          go_round
          case rel => exact ⟨i + 1, by omega, by go_num, HEQ.out⟩
          case measure => simp [intOf]; omega
    · have HEQ : Hid (SE D n (q + 1) = n) := by rw [← HE.out]; exact SE_end D n i hlt
      go_wp2
      all_goals
        go_ret
        refine ⟨?_, rfl⟩
        rw [HEQ.out]
        first | rfl | exact ret_int (by omega)

set_option maxHeartbeats 4000000 in
set_option maxRecDepth 100000 in
theorem value_any (a : Option Addr) (n c b o : Nat) (D : Nat → Int) (s : Nat) (w : World) (hn : n ≤ 1048576) (hs : s ≤ 9223372036854775807) (hd : Bytes w a n b o D) :
    Calls Try.prog 20 #[.slice a n c, .int .i64 s] w fun e w' => e = .returned (.int .i64 (VE D n s 0 : Nat)) ∧ w' = w := by
  have HD : Hid (Bytes w a n b o D) := hd
  clear hd
  go_enter Try.func20, Try.ntmps20
  go_wp2
  go_loop [5, 6] (fun dp t => ∃ i d : Nat, d ≤ i ∧ (i ≤ n + 1 ∨ i = s) ∧ t = .int .i64 i ∧ dp = .int .i64 d ∧ Hid (VE D n i d = VE D n s 0)) (fun _ t => n + 1 - (intOf t).toNat)
  case atStart => exact ⟨s, 0, by omega, .inr rfl, rfl, rfl, rfl⟩
  case round =>
    obtain ⟨i, d, hdi, hi, rfl, rfl, HE⟩ := hrel
    by_cases hlt : i < n
    · obtain rfl := HD.out.top (by omega)
      have c1 := HD.out.byte i hlt
      have hii : (i : Int) < (n : Int) := by omega
      clear hi
      generalize hx : D i = x at *
      have HX : Hid (D i = x) := hx
      clear hx
      by_cases x34 : x = 34
      · subst x34
        have hse := SE_le D n (i + 1)
        have hsg := SE_ge D n (i + 1) (by omega)
        by_cases d0 : d = 0
        · subst d0
          have HEQ : Hid (VE D n s 0 = SE D n (i + 1) + 1) := by rw [← HE.out]; exact VE_quote0 D n i hlt HX.out
          go_wp2_with fail
          refine (string_any _ n c b o D i _ hn hlt HD.out).mono ?_
          rintro e w1 ⟨rfl, rfl⟩
          go_wp2
          go_ret
          exact ⟨by rw [HEQ.out]; exact ret_int (by omega), rfl⟩
        · have hdb : ((d : Int) == 0) = false := beq_eq_false_iff_ne.2 (by omega)
          have HEQ : Hid (VE D n (SE D n (i + 1) + 1) d = VE D n s 0) := by rw [← HE.out]; exact (VE_quote D n i d hlt HX.out (by omega)).symm
          clear d0
          go_wp2_with fail
          refine (string_any _ n c b o D i _ hn hlt HD.out).mono ?_
          rintro e w1 ⟨rfl, rfl⟩
          go_wp2
          go_round
          case rel => exact ⟨SE D n (i + 1) + 1, d, by omega, .inl (by omega), by go_num, rfl, HEQ.out⟩
          case measure => simp [intOf]; omega
      by_cases x123 : x = 123
      · subst x123
        have HEQ : Hid (VE D n (i + 1) (d + 1) = VE D n s 0) := by rw [← HE.out]; exact (VE_open D n i d hlt (by rw [HX.out]; omega)).symm
        go_wp2
        go_round
        case rel => exact ⟨i + 1, d + 1, by omega, .inl (by omega), by go_num, by go_num, HEQ.out⟩
        case measure => simp [intOf]; omega
      by_cases x91 : x = 91
      · subst x91
        have HEQ : Hid (VE D n (i + 1) (d + 1) = VE D n s 0) := by rw [← HE.out]; exact (VE_open D n i d hlt (by rw [HX.out]; omega)).symm
        go_wp2
        go_round
        case rel => exact ⟨i + 1, d + 1, by omega, .inl (by omega), by go_num, by go_num, HEQ.out⟩
        case measure => simp [intOf]; omega
      by_cases x125 : x = 125
      · subst x125
        by_cases d0 : d = 0
        · subst d0
          have HEQ : Hid (VE D n s 0 = i) := by rw [← HE.out]; exact VE_close0 D n i hlt (by rw [HX.out]; omega)
          go_wp2
          go_ret
          exact ⟨by first | (rw [HEQ.out]; rfl) | rw [HEQ.out], rfl⟩
        · by_cases d1 : d = 1
          · subst d1
            have HEQ : Hid (VE D n s 0 = i + 1) := by rw [← HE.out]; exact VE_close1 D n i hlt (by rw [HX.out]; omega)
            go_wp2
            go_ret
            exact ⟨by rw [HEQ.out]; exact ret_int (by omega), rfl⟩
          · obtain ⟨e, rfl⟩ : ∃ e, d = e + 2 := ⟨d - 2, by omega⟩
            have HEQ : Hid (VE D n (i + 1) (e + 1) = VE D n s 0) := by rw [← HE.out]; exact (VE_close D n i e hlt (by rw [HX.out]; omega)).symm
            clear d0 d1
            go_wp2
            go_round
            case rel => exact ⟨i + 1, e + 1, by omega, .inl (by omega), by go_num, by go_num, HEQ.out⟩
            case measure => simp [intOf]; omega
      by_cases x93 : x = 93
      · subst x93
        by_cases d0 : d = 0
        · subst d0
          have HEQ : Hid (VE D n s 0 = i) := by rw [← HE.out]; exact VE_close0 D n i hlt (by rw [HX.out]; omega)
          go_wp2
          go_ret
          exact ⟨by first | (rw [HEQ.out]; rfl) | rw [HEQ.out], rfl⟩
        · by_cases d1 : d = 1
          · subst d1
            have HEQ : Hid (VE D n s 0 = i + 1) := by rw [← HE.out]; exact VE_close1 D n i hlt (by rw [HX.out]; omega)
            go_wp2
            go_ret
            exact ⟨by rw [HEQ.out]; exact ret_int (by omega), rfl⟩
          · obtain ⟨e, rfl⟩ : ∃ e, d = e + 2 := ⟨d - 2, by omega⟩
            have HEQ : Hid (VE D n (i + 1) (e + 1) = VE D n s 0) := by rw [← HE.out]; exact (VE_close D n i e hlt (by rw [HX.out]; omega)).symm
            clear d0 d1
            go_wp2
            go_round
            case rel => exact ⟨i + 1, e + 1, by omega, .inl (by omega), by go_num, by go_num, HEQ.out⟩
            case measure => simp [intOf]; omega
      by_cases x44 : x = 44
      · subst x44
        by_cases d0 : d = 0
        · subst d0
          have HEQ : Hid (VE D n s 0 = i) := by rw [← HE.out]; exact VE_sep0 D n i hlt (by rw [HX.out]; omega)
          go_wp2
          go_ret
          exact ⟨by first | (rw [HEQ.out]; rfl) | rw [HEQ.out], rfl⟩
        · have hdb : ((d : Int) == 0) = false := beq_eq_false_iff_ne.2 (by omega)
          have HEQ : Hid (VE D n (i + 1) d = VE D n s 0) := by rw [← HE.out]; exact (VE_pass D n i d hlt (by rw [HX.out]; omega) (by omega)).symm
          clear d0
          go_wp2
          go_round
          case rel => exact ⟨i + 1, d, by omega, .inl (by omega), by go_num, rfl, HEQ.out⟩
          case measure => simp [intOf]; omega
      by_cases x32 : x = 32
      · subst x32
        by_cases d0 : d = 0
        · subst d0
          have HEQ : Hid (VE D n s 0 = i) := by rw [← HE.out]; exact VE_sep0 D n i hlt (by rw [HX.out]; omega)
          go_wp2
          go_ret
          exact ⟨by first | (rw [HEQ.out]; rfl) | rw [HEQ.out], rfl⟩
        · have hdb : ((d : Int) == 0) = false := beq_eq_false_iff_ne.2 (by omega)
          have HEQ : Hid (VE D n (i + 1) d = VE D n s 0) := by rw [← HE.out]; exact (VE_pass D n i d hlt (by rw [HX.out]; omega) (by omega)).symm
          clear d0
          go_wp2
          go_round
          case rel => exact ⟨i + 1, d, by omega, .inl (by omega), by go_num, rfl, HEQ.out⟩
          case measure => simp [intOf]; omega
      by_cases x9 : x = 9
      · subst x9
        by_cases d0 : d = 0
        · subst d0
          have HEQ : Hid (VE D n s 0 = i) := by rw [← HE.out]; exact VE_sep0 D n i hlt (by rw [HX.out]; omega)
          go_wp2
          go_ret
          exact ⟨by first | (rw [HEQ.out]; rfl) | rw [HEQ.out], rfl⟩
        · have hdb : ((d : Int) == 0) = false := beq_eq_false_iff_ne.2 (by omega)
          have HEQ : Hid (VE D n (i + 1) d = VE D n s 0) := by rw [← HE.out]; exact (VE_pass D n i d hlt (by rw [HX.out]; omega) (by omega)).symm
          clear d0
          go_wp2
          go_round
          case rel => exact ⟨i + 1, d, by omega, .inl (by omega), by go_num, rfl, HEQ.out⟩
          case measure => simp [intOf]; omega
      by_cases x13 : x = 13
      · subst x13
        by_cases d0 : d = 0
        · subst d0
          have HEQ : Hid (VE D n s 0 = i) := by rw [← HE.out]; exact VE_sep0 D n i hlt (by rw [HX.out]; omega)
          go_wp2
          go_ret
          exact ⟨by first | (rw [HEQ.out]; rfl) | rw [HEQ.out], rfl⟩
        · have hdb : ((d : Int) == 0) = false := beq_eq_false_iff_ne.2 (by omega)
          have HEQ : Hid (VE D n (i + 1) d = VE D n s 0) := by rw [← HE.out]; exact (VE_pass D n i d hlt (by rw [HX.out]; omega) (by omega)).symm
          clear d0
          go_wp2
          go_round
          case rel => exact ⟨i + 1, d, by omega, .inl (by omega), by go_num, rfl, HEQ.out⟩
          case measure => simp [intOf]; omega
      by_cases x10 : x = 10
      · subst x10
        by_cases d0 : d = 0
        · subst d0
          have HEQ : Hid (VE D n s 0 = i) := by rw [← HE.out]; exact VE_sep0 D n i hlt (by rw [HX.out]; omega)
          go_wp2
          go_ret
          exact ⟨by first | (rw [HEQ.out]; rfl) | rw [HEQ.out], rfl⟩
        · have hdb : ((d : Int) == 0) = false := beq_eq_false_iff_ne.2 (by omega)
          have HEQ : Hid (VE D n (i + 1) d = VE D n s 0) := by rw [← HE.out]; exact (VE_pass D n i d hlt (by rw [HX.out]; omega) (by omega)).symm
          clear d0
          go_wp2
          go_round
          case rel => exact ⟨i + 1, d, by omega, .inl (by omega), by go_num, rfl, HEQ.out⟩
          case measure => simp [intOf]; omega
      have HEQ : Hid (VE D n (i + 1) d = VE D n s 0) := by rw [← HE.out]; exact (VE_plain D n i d hlt (by rw [HX.out]; omega) (by rw [HX.out]; omega)).symm
      have b34 : (x == 34) = false := beq_eq_false_iff_ne.2 x34
      have b123 : (x == 123) = false := beq_eq_false_iff_ne.2 x123
      have b91 : (x == 91) = false := beq_eq_false_iff_ne.2 x91
      have b125 : (x == 125) = false := beq_eq_false_iff_ne.2 x125
      have b93 : (x == 93) = false := beq_eq_false_iff_ne.2 x93
      have b44 : (x == 44) = false := beq_eq_false_iff_ne.2 x44
      have b32 : (x == 32) = false := beq_eq_false_iff_ne.2 x32
      have b9 : (x == 9) = false := beq_eq_false_iff_ne.2 x9
      have b13 : (x == 13) = false := beq_eq_false_iff_ne.2 x13
      have b10 : (x == 10) = false := beq_eq_false_iff_ne.2 x10
      clear x34 x123 x91 x125 x93 x44 x32 x9 x13 x10
      go_wp2
      go_round
      case rel => exact ⟨i + 1, d, by omega, .inl (by omega), by go_num, rfl, HEQ.out⟩
      case measure => simp [intOf]; omega
    · have HEQ : Hid (VE D n s 0 = n) := by rw [← HE.out]; exact VE_end D n i d hlt
      go_wp2
      go_ret
      exact ⟨by first | (rw [HEQ.out]; rfl) | rw [HEQ.out], rfl⟩
end Go.Proofs.Qxb6603002a
