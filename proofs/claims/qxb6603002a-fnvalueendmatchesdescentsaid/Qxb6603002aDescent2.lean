import Derived.Test.Qxb6603002aDescent
namespace Go.Proofs.Qxb6603002a
open Go.RowKit Go.Deep ValueLaw

set_option maxHeartbeats 4000000 in
set_option maxRecDepth 100000 in
theorem group_any (a : Option Addr) (n c b o : Nat) (D : Nat → Int) (hn : n ≤ 1048576) : ∀ (f g : Nat) (w : World), n - g ≤ f → g < n → Bytes w a n b o D →
    Calls Try.prog 22 #[.slice a n c, .int .i64 g] w fun e w' => e = .returned (.int .i64 (VE D n (g + 1) 1 : Nat)) ∧ w' = w := by
  intro f
  induction f with
  | zero => intro g w h1 h2; omega
  | succ f ih =>
    intro g w hf hg hd
    have IH : Hid (∀ (g : Nat) (w : World), n - g ≤ f → g < n → Bytes w a n b o D → Calls Try.prog 22 #[.slice a n c, .int .i64 g] w fun e w' => e = .returned (.int .i64 (VE D n (g + 1) 1 : Nat)) ∧ w' = w) := ih
    have HD : Hid (Bytes w a n b o D) := hd
    clear hd ih
    obtain rfl := HD.out.top (by omega)
    go_enter Try.func22, Try.ntmps22
    go_wp2
    go_loop [5] (fun t => ∃ j : Nat, g + 1 ≤ j ∧ j ≤ n + 1 ∧ t = .int .i64 j ∧ Hid (VE D n j 1 = VE D n (g + 1) 1)) (fun t => n + 1 - (intOf t).toNat)
    case atStart => exact ⟨g + 1, by omega, by omega, by go_num, rfl⟩
    case round =>
      obtain ⟨j, hgj, hj, rfl, HE⟩ := hrel
      by_cases hlt : j < n
      · have c1 := HD.out.byte j hlt
        have hji : (j : Int) < (n : Int) := by omega
        generalize hx : D j = x at *
        have HX : Hid (D j = x) := hx
        clear hx
        by_cases x34 : x = 34
        · subst x34
          have hse := SE_le D n (j + 1)
          have hsg := SE_ge D n (j + 1) (by omega)
          have HEQ : Hid (VE D n (SE D n (j + 1) + 1) 1 = VE D n (g + 1) 1) := by
            show _ = _
            rw [← HE.out]; exact (VE_quote D n j 1 hlt HX.out (by omega)).symm
          go_wp2_with fail
          refine (close_any _ n c b o D j _ hn hlt HD.out).mono ?_
          rintro e w1 ⟨rfl, rfl⟩
          go_wp2
          go_round
          case rel => exact ⟨SE D n (j + 1) + 1, by omega, by omega, by go_num, HEQ.out⟩
          case measure => simp [intOf]; omega
        by_cases x123 : x = 123
        · subst x123
          have hvl := VE_in' D n (j + 1) 1 (by omega)
          have hvg := VE_ge' D n (j + 1) 1 (by omega)
          have HEQ : Hid (VE D n (VE D n (j + 1) 1) 1 = VE D n (g + 1) 1) := by
            show _ = _
            rw [← HE.out, VE_open D n j 1 hlt (by rw [HX.out]; omega)]; exact (VE_two' D n (j + 1) 1 (by omega)).symm
          go_wp2_with fail
          refine (IH.out j _ (by omega) hlt HD.out).mono ?_
          rintro e w1 ⟨rfl, rfl⟩
          generalize VE D n (j + 1) 1 = j2 at *
          go_wp2
          go_round
          case rel => exact ⟨j2, by omega, by omega, rfl, HEQ.out⟩
          case measure => simp [intOf]; omega
        by_cases x91 : x = 91
        · subst x91
          have hvl := VE_in' D n (j + 1) 1 (by omega)
          have hvg := VE_ge' D n (j + 1) 1 (by omega)
          have HEQ : Hid (VE D n (VE D n (j + 1) 1) 1 = VE D n (g + 1) 1) := by
            show _ = _
            rw [← HE.out, VE_open D n j 1 hlt (by rw [HX.out]; omega)]; exact (VE_two' D n (j + 1) 1 (by omega)).symm
          go_wp2_with fail
          refine (IH.out j _ (by omega) hlt HD.out).mono ?_
          rintro e w1 ⟨rfl, rfl⟩
          generalize VE D n (j + 1) 1 = j2 at *
          go_wp2
          go_round
          case rel => exact ⟨j2, by omega, by omega, rfl, HEQ.out⟩
          case measure => simp [intOf]; omega
        by_cases x125 : x = 125
        · subst x125
          have HEQ : Hid (VE D n (g + 1) 1 = j + 1) := by
            show _ = _
            rw [← HE.out]; exact VE_close1 D n j hlt (by rw [HX.out]; omega)
          go_wp2
          go_ret
          exact ⟨by rw [HEQ.out]; exact ret_int (by omega), rfl⟩
        by_cases x93 : x = 93
        · subst x93
          have HEQ : Hid (VE D n (g + 1) 1 = j + 1) := by
            show _ = _
            rw [← HE.out]; exact VE_close1 D n j hlt (by rw [HX.out]; omega)
          go_wp2
          go_ret
          exact ⟨by rw [HEQ.out]; exact ret_int (by omega), rfl⟩
        have HEQ : Hid (VE D n (j + 1) 1 = VE D n (g + 1) 1) := by
          show _ = _
          rw [← HE.out]; exact (VE_pass D n j 1 hlt (by rw [HX.out]; omega) (by omega)).symm
        have b34 : (x == 34) = false := beq_eq_false_iff_ne.2 x34
        have b123 : (x == 123) = false := beq_eq_false_iff_ne.2 x123
        have b91 : (x == 91) = false := beq_eq_false_iff_ne.2 x91
        have b125 : (x == 125) = false := beq_eq_false_iff_ne.2 x125
        have b93 : (x == 93) = false := beq_eq_false_iff_ne.2 x93
        clear x34 x123 x91 x125 x93
        go_wp2
        go_round
        case rel => exact ⟨j + 1, by omega, by omega, by go_num, HEQ.out⟩
        case measure => simp [intOf]; omega
      · have HEQ : Hid (VE D n (g + 1) 1 = n) := by
          show _ = _
          rw [← HE.out]; exact VE_end D n j 1 hlt
        go_wp2
        go_ret
        exact ⟨by first | (rw [HEQ.out]; rfl) | rw [HEQ.out], rfl⟩

set_option maxHeartbeats 4000000 in
set_option maxRecDepth 100000 in
theorem model_any (a : Option Addr) (n c b o : Nat) (D : Nat → Int) (s : Nat) (w : World) (hn : n ≤ 1048576) (hd : Bytes w a n b o D) :
    Calls Try.prog 16 #[.slice a n c, .int .i64 s] w fun e w' => e = .returned (.int .i64 (VE D n s 0 : Nat)) ∧ w' = w := by
  have HD : Hid (Bytes w a n b o D) := hd
  clear hd
  go_enter Try.func16, Try.ntmps16
  go_wp2
  go_loop [5] (fun t => ∃ i : Nat, (i ≤ n + 1 ∨ i = s) ∧ t = .int .i64 i ∧ Hid (VE D n i 0 = VE D n s 0)) (fun t => n + 1 - (intOf t).toNat)
  case atStart => exact ⟨s, .inr rfl, rfl, rfl⟩
  case round =>
    obtain ⟨i, hi, rfl, HE⟩ := hrel
    by_cases hlt : i < n
    · obtain rfl := HD.out.top (by omega)
      have c1 := HD.out.byte i hlt
      have hii : (i : Int) < (n : Int) := by omega
      clear hi
      generalize hx : D i = x at *
      have HX : Hid (D i = x) := hx
      clear hx
      by_cases x34 : x = 34
      · subst x34
        have hse := SE_le D n (i + 1)
        have HEQ : Hid (VE D n s 0 = SE D n (i + 1) + 1) := by
          show _ = _
          rw [← HE.out]; exact VE_quote0 D n i hlt HX.out
        go_wp2_with fail
        refine (close_any _ n c b o D i _ hn hlt HD.out).mono ?_
        rintro e w1 ⟨rfl, rfl⟩
        go_wp2
        go_ret
        exact ⟨by rw [HEQ.out]; exact ret_int (by omega), rfl⟩
      by_cases x123 : x = 123
      · subst x123
        have HEQ : Hid (VE D n s 0 = VE D n (i + 1) 1) := by
          show _ = _
          rw [← HE.out]; exact VE_open D n i 0 hlt (by rw [HX.out]; omega)
        go_wp2_with fail
        refine (group_any _ n c b o D hn n i _ (by omega) hlt HD.out).mono ?_
        rintro e w1 ⟨rfl, rfl⟩
        generalize VE D n (i + 1) 1 = j2 at *
        go_wp2
        go_ret
        exact ⟨by first | (rw [HEQ.out]; rfl) | rw [HEQ.out], rfl⟩
      by_cases x91 : x = 91
      · subst x91
        have HEQ : Hid (VE D n s 0 = VE D n (i + 1) 1) := by
          show _ = _
          rw [← HE.out]; exact VE_open D n i 0 hlt (by rw [HX.out]; omega)
        go_wp2_with fail
        refine (group_any _ n c b o D hn n i _ (by omega) hlt HD.out).mono ?_
        rintro e w1 ⟨rfl, rfl⟩
        generalize VE D n (i + 1) 1 = j2 at *
        go_wp2
        go_ret
        exact ⟨by first | (rw [HEQ.out]; rfl) | rw [HEQ.out], rfl⟩
      by_cases x125 : x = 125
      · subst x125
        have HEQ : Hid (VE D n s 0 = i) := by
          show _ = _
          rw [← HE.out]; exact VE_close0 D n i hlt (by rw [HX.out]; omega)
        go_wp2
        go_ret
        exact ⟨by first | (rw [HEQ.out]; rfl) | rw [HEQ.out], rfl⟩
      by_cases x93 : x = 93
      · subst x93
        have HEQ : Hid (VE D n s 0 = i) := by
          show _ = _
          rw [← HE.out]; exact VE_close0 D n i hlt (by rw [HX.out]; omega)
        go_wp2
        go_ret
        exact ⟨by first | (rw [HEQ.out]; rfl) | rw [HEQ.out], rfl⟩
      by_cases x44 : x = 44
      · subst x44
        have HEQ : Hid (VE D n s 0 = i) := by
          show _ = _
          rw [← HE.out]; exact VE_sep0 D n i hlt (by rw [HX.out]; omega)
        go_wp2
        go_ret
        exact ⟨by first | (rw [HEQ.out]; rfl) | rw [HEQ.out], rfl⟩
      by_cases x32 : x = 32
      · subst x32
        have HEQ : Hid (VE D n s 0 = i) := by
          show _ = _
          rw [← HE.out]; exact VE_sep0 D n i hlt (by rw [HX.out]; omega)
        go_wp2
        go_ret
        exact ⟨by first | (rw [HEQ.out]; rfl) | rw [HEQ.out], rfl⟩
      by_cases x9 : x = 9
      · subst x9
        have HEQ : Hid (VE D n s 0 = i) := by
          show _ = _
          rw [← HE.out]; exact VE_sep0 D n i hlt (by rw [HX.out]; omega)
        go_wp2
        go_ret
        exact ⟨by first | (rw [HEQ.out]; rfl) | rw [HEQ.out], rfl⟩
      by_cases x13 : x = 13
      · subst x13
        have HEQ : Hid (VE D n s 0 = i) := by
          show _ = _
          rw [← HE.out]; exact VE_sep0 D n i hlt (by rw [HX.out]; omega)
        go_wp2
        go_ret
        exact ⟨by first | (rw [HEQ.out]; rfl) | rw [HEQ.out], rfl⟩
      by_cases x10 : x = 10
      · subst x10
        have HEQ : Hid (VE D n s 0 = i) := by
          show _ = _
          rw [← HE.out]; exact VE_sep0 D n i hlt (by rw [HX.out]; omega)
        go_wp2
        go_ret
        exact ⟨by first | (rw [HEQ.out]; rfl) | rw [HEQ.out], rfl⟩
      have HEQ : Hid (VE D n (i + 1) 0 = VE D n s 0) := by
        show _ = _
        rw [← HE.out]; exact (VE_plain D n i 0 hlt (by rw [HX.out]; omega) (by rw [HX.out]; omega)).symm
      have b34 : (x == 34) = false := beq_eq_false_iff_ne.2 x34
      have b123 : (x == 123) = false := beq_eq_false_iff_ne.2 x123
      have b91 : (x == 91) = false := beq_eq_false_iff_ne.2 x91
      have b125 : (x == 125) = false := beq_eq_false_iff_ne.2 x125
      have b93 : (x == 93) = false := beq_eq_false_iff_ne.2 x93
      have b44 : (x == 44) = false := beq_eq_false_iff_ne.2 x44
      have b32 : (x == 32) = false := beq_eq_false_iff_ne.2 x32
      have b9 : (x == 9) = false := beq_eq_false_iff_ne.2 x9
      have b13 : (x == 13) = false := beq_eq_false_iff_ne.2 x13
      have b10 : (x == 10) = false := beq_eq_false_iff_ne.2 x10
      clear x34 x123 x91 x125 x93 x44 x32 x9 x13 x10
      go_wp2
      go_round
      case rel => exact ⟨i + 1, .inl (by omega), by go_num, HEQ.out⟩
      case measure => simp [intOf]; omega
    · have HEQ : Hid (VE D n s 0 = n) := by
        show _ = _
        rw [← HE.out]; exact VE_end D n i 0 hlt
      go_wp2
      go_ret
      exact ⟨by first | (rw [HEQ.out]; rfl) | rw [HEQ.out], rfl⟩

set_option maxHeartbeats 1000000 in
set_option maxRecDepth 100000 in
theorem descent_some (ad : Addr) (n c : Nat) (D : Nat → Int) (s : Nat) (w : World) (hn : n ≤ 65536) (hs : s ≤ 9223372036854775807) (hsrc : ∀ j, j < n → w.cell? (ad.add j) = some (.int .u8 (D j))) :
    Calls Try.prog 5 #[.slice (some ad) n c, .int .i64 s] w fun e w' => e = .returned (.bool true) ∧ Below w.heap.size w w' := by
  have HS : Hid (∀ j, j < n → w.cell? (ad.add j) = some (.int .u8 (D j))) := hsrc
  clear hsrc
  go_enter Try.func5, Try.ntmps5
  go_wp2_with fail
  refine (bytes14_yes (some ad) n c s _ (by omega)).mono ?_
  rintro e w1 ⟨rfl, rfl⟩
  go_wp2_with fail
  refine (clone_row ad n c D _ (by omega) HS.out).mono ?_
  rintro e w2 ⟨rfl, hr, hbl⟩
  have HR : Hid (w2.rowIs w1.heap.size 5 n (fun i => .int .u8 (D i))) := hr
  have HBL : Hid (Below w1.heap.size w1 w2) := hbl
  clear hr hbl
  go_wp2_with fail
  refine (zzvalue_any _ n n w1.heap.size 0 D s _ (by omega) hs ⟨fun _ => rfl, fun i hi => by simpa using HR.out.cell hi⟩).mono ?_
  rintro e w3 ⟨rfl, rfl⟩
  go_wp2_with fail
  refine (model_any _ n n w1.heap.size 0 D s _ (by omega) ⟨fun _ => rfl, fun i hi => by simpa using HR.out.cell hi⟩).mono ?_
  rintro e w3 ⟨rfl, rfl⟩
  generalize VE D n s 0 = v at *
  go_wp2
  go_ret
  exact ⟨rfl, HBL.out⟩

set_option maxHeartbeats 1000000 in
set_option maxRecDepth 100000 in
theorem descent_nil (s : Nat) (w : World) (hs : s ≤ 9223372036854775807) :
    Calls Try.prog 5 #[.slice none 0 0, .int .i64 s] w fun e w' => e = .returned (.bool true) ∧ Below w.heap.size w w' := by
  have HB : Hid (∀ w : World, Bytes w none 0 0 0 (fun _ => 0)) := fun w => ⟨fun h => absurd h (by omega), fun i hi => absurd hi (by omega)⟩
  go_enter Try.func5, Try.ntmps5
  go_wp2_with fail
  refine (bytes14_yes none 0 0 s _ (by omega)).mono ?_
  rintro e w1 ⟨rfl, rfl⟩
  go_wp2_with fail
  refine (clone_nil _).mono ?_
  rintro e w1 ⟨rfl, rfl⟩
  go_wp2_with fail
  refine (zzvalue_any none 0 0 0 0 (fun _ => 0) s _ (by omega) hs (HB.out _)).mono ?_
  rintro e w3 ⟨rfl, rfl⟩
  go_wp2_with fail
  refine (model_any none 0 0 0 0 (fun _ => 0) s _ (by omega) (HB.out _)).mono ?_
  rintro e w3 ⟨rfl, rfl⟩
  generalize VE (fun _ => 0) 0 s 0 = v at *
  go_wp2
  go_ret
  exact ⟨rfl, Below.refl _ _⟩
end Go.Proofs.Qxb6603002a
