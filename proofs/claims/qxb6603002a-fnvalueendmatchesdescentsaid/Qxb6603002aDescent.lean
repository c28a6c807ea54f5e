import Derived.Test.Qxb6603002aShift
namespace Go.Proofs.Qxb6603002a
open Go.RowKit Go.Deep ValueLaw

set_option maxHeartbeats 2000000 in
set_option maxRecDepth 100000 in
theorem close_any (a : Option Addr) (n c b o : Nat) (D : Nat → Int) (q : Nat) (w : World) (hn : n ≤ 1048576) (hq : q < n) (hd : Bytes w a n b o D) :
    Calls Try.prog 21 #[.slice a n c, .int .i64 q] w fun e w' => e = .returned (.int .i64 (SE D n (q + 1) : Nat)) ∧ w' = w := by
  have HD : Hid (Bytes w a n b o D) := hd
  clear hd
  obtain rfl := HD.out.top (by omega)
  rw [← CL_eq D n q]
  go_enter Try.func21, Try.ntmps21
  go_wp2
  go_loop [5] (fun t => ∃ p : Nat, q + 1 ≤ p ∧ p ≤ n ∧ t = .int .i64 p ∧ Hid (CL D n q p = CL D n q (q + 1))) (fun t => n - (intOf t).toNat)
  case atStart => exact ⟨q + 1, by omega, by omega, by go_num, rfl⟩
  case round =>
    obtain ⟨p, hpq, hp, rfl, HE⟩ := hrel
    by_cases hlt : p < n
    · have c1 := HD.out.byte p hlt
      have hpi : (p : Int) < (n : Int) := by omega
      generalize hx : D p = x at *
      have HX : Hid (D p = x) := hx
      clear hx
      by_cases x34 : x = 34
      · have hb : (x != 34) = false := by simp [x34]
        have H34 : Hid (D p = 34) := by show D p = 34; rw [HX.out, x34]
        clear x34
        go_wp2
        go_loop [6] (fun t => ∃ k : Nat, k + q + 1 ≤ p ∧ t = .int .i64 k ∧ Hid (run D q p = k + run D q (p - k))) (fun t => p - (intOf t).toNat)
        case atStart => exact ⟨0, by omega, rfl, by show _ = _; rw [Nat.sub_zero, Nat.zero_add]⟩
        case round =>
          obtain ⟨k, hk, rfl, HK⟩ := hrel
          by_cases hgt : q < p - 1 - k
          · have c2 := HD.out.byte (p - 1 - k) (by omega)
            have hg1 : (q : Int) < (p : Int) - 1 - (k : Int) := by omega
            have hg2 : (p : Int) - 1 - (k : Int) < (n : Int) := by omega
            have hg3 : 0 ≤ (p : Int) - 1 - (k : Int) := by omega
            have HP1 : Hid (p - k = p - 1 - k + 1) := by show _ = _; omega
            have HP2 : Hid (p - (k + 1) = p - 1 - k) := by show _ = _; omega
            by_cases y92 : D (p - 1 - k) = 92
            · have hb2 : (D (p - 1 - k) == 92) = true := beq_iff_eq.2 y92
              have HY : Hid (run D q p = (k + 1) + run D q (p - (k + 1))) := by
                show _ = _
                rw [HK.out, HP1.out, HP2.out, run_yes D q (p - 1 - k) hgt y92]; omega
              clear y92
              generalize D (p - 1 - k) = y at *
              go_wp2
              go_round
              case rel => exact ⟨k + 1, by omega, by go_num, HY.out⟩
              case measure => simp [intOf]; omega
            · have hb2 : (D (p - 1 - k) == 92) = false := beq_eq_false_iff_ne.2 y92
              have HY : Hid (run D q p = k) := by
                show _ = _
                rw [HK.out, HP1.out, run_no D q (p - 1 - k) y92]; omega
              clear y92
              generalize D (p - 1 - k) = y at *
              by_cases ev : k % 2 = 0
              · have hm : ((k : Int) % 2 == 0) = true := beq_iff_eq.2 (by omega)
                have HEQ : Hid (CL D n q (q + 1) = p) := by
                  show _ = _
                  rw [← HE.out]; exact CL_hit D n q p hlt H34.out (by rw [HY.out]; exact ev)
                clear ev
                go_wp2
                go_ret
                exact ⟨by first | (rw [HEQ.out]; rfl) | rw [HEQ.out], rfl⟩
              · have hm : ((k : Int) % 2 == 0) = false := beq_eq_false_iff_ne.2 (by omega)
                have HEQ : Hid (CL D n q (p + 1) = CL D n q (q + 1)) := by
                  show _ = _
                  rw [← HE.out]; exact (CL_miss D n q p hlt (fun h => ev (by rw [← HY.out]; exact h.2))).symm
                clear ev
                go_wp2
                go_round
                case rel => exact ⟨p + 1, by omega, by omega, by go_num, HEQ.out⟩
                case measure => simp [intOf]; omega
          · have hg1 : decide ((q : Int) < (p : Int) - 1 - (k : Int)) = false := decide_eq_false (by omega)
            have HY : Hid (run D q p = k) := by
              show _ = _
              have e : p - k = q + 1 := by omega
              rw [HK.out, e, run_start]; omega
            by_cases ev : k % 2 = 0
            · have hm : ((k : Int) % 2 == 0) = true := beq_iff_eq.2 (by omega)
              have HEQ : Hid (CL D n q (q + 1) = p) := by
                show _ = _
                rw [← HE.out]; exact CL_hit D n q p hlt H34.out (by rw [HY.out]; exact ev)
              clear ev
              go_wp2
              go_ret
              exact ⟨by first | (rw [HEQ.out]; rfl) | rw [HEQ.out], rfl⟩
            · have hm : ((k : Int) % 2 == 0) = false := beq_eq_false_iff_ne.2 (by omega)
              have HEQ : Hid (CL D n q (p + 1) = CL D n q (q + 1)) := by
                show _ = _
                rw [← HE.out]; exact (CL_miss D n q p hlt (fun h => ev (by rw [← HY.out]; exact h.2))).symm
              clear ev
              go_wp2
              go_round
              case rel => exact ⟨p + 1, by omega, by omega, by go_num, HEQ.out⟩
              case measure => simp [intOf]; omega
      · have hb : (x != 34) = true := by simp [x34]
        have HEQ : Hid (CL D n q (p + 1) = CL D n q (q + 1)) := by
          show _ = _
          rw [← HE.out]; exact (CL_miss D n q p hlt (fun h => x34 (by rw [← HX.out]; exact h.1))).symm
        clear x34
        go_wp2
        go_round
        case rel => exact ⟨p + 1, by omega, by omega, by go_num, HEQ.out⟩
        case measure => simp [intOf]; omega
    · have HEQ : Hid (CL D n q (q + 1) = n) := by
        show _ = _
        rw [← HE.out]; exact CL_end D n q p hlt
      go_wp2
      go_ret
      exact ⟨by first | (rw [HEQ.out]; rfl) | rw [HEQ.out], rfl⟩
end Go.Proofs.Qxb6603002a
