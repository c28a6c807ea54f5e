import Derived.Test.Qxb6602874aReads
namespace Go.Proofs.Qxb6602874a
open Go.RowKit Go.Deep

/-- The call answers a bool of which p holds. -/
def Answers (e : Ending) (p : Bool → Prop) : Prop := ∃ q : Bool, e = .returned (.bool q) ∧ p q

set_option maxHeartbeats 1000000 in
set_option maxRecDepth 100000 in
theorem range_any (a : Option Addr) (n c b o : Nat) (A : Nat → Option Addr) (L C rb ro : Nat → Nat) (D : Nat → Nat → Int) (m : Nat) (w : World)
    (hn : n ≤ 1048576) (hL : ∀ i, i < n → L i ≤ 1048576) (hd : Deps w a n b o A L C rb ro D) :
    Calls Try.prog 9 #[.slice a n c, .int .i64 m] w fun e w' => Answers e (fun q => q = true → InRange n m L D) ∧ w' = w := by
  have HD : Hid (Deps w a n b o A L C rb ro D) := hd
  have HL : Hid (∀ i, i < n → L i ≤ 1048576) := hL
  clear hd hL
  go_enter Try.func9, Try.ntmps9
  go_wp2
  go_loop [5] (fun i => ∃ k : Nat, k ≤ n ∧ i = .int .i64 k ∧ Hid (InRange k m L D)) (fun i => n - (intOf i).toNat)
  case atStart => exact ⟨0, Nat.zero_le _, rfl, fun j hj => absurd hj (by omega)⟩
  case round =>
    obtain ⟨k, hk, rfl, HN⟩ := hrel
    by_cases hlt : k < n
    · obtain rfl := HD.out.top (by omega)
      have c1 := HD.out.row k hlt
      have hki : (k : Int) < (n : Int) := by omega
      have hlk := HL.out k hlt
      go_wp2
      go_loop [7] (fun i => ∃ j : Nat, j ≤ L k ∧ i = .int .i64 j ∧ Hid (∀ q, q < j → 0 ≤ D k q ∧ D k q < m)) (fun i => L k - (intOf i).toNat)
      case atStart => exact ⟨0, Nat.zero_le _, rfl, fun j hj => absurd hj (by omega)⟩
      case round =>
        obtain ⟨j, hj, rfl, HQ⟩ := hrel
        by_cases hjl : j < L k
        · have hal := HD.out.lies k hlt (by omega)
          have c3 := HD.out.num k hlt j hjl
          have hji : (j : Int) < (L k : Int) := by omega
          generalize hx : D k j = x at *
          have HX : Hid (D k j = x) := hx
          clear hx
          rw [hal] at c1 ⊢
          by_cases x0 : x < 0
          · go_wp2
            go_ret
            exact ⟨⟨false, rfl, fun h => by cases h⟩, rfl⟩
          · by_cases x1 : x < m
            · have hd1 : decide ((m : Int) ≤ x) = false := decide_eq_false (by omega)
              go_wp2
              go_round
              case rel =>
                refine ⟨j + 1, by omega, by go_num, fun q hq => ?_⟩
                by_cases e : q = j
                · subst e; rw [HX.out]; omega
                · exact HQ.out q (by omega)
              case measure => simp [intOf]; omega
            · have x2 : (m : Int) ≤ x := by omega
              go_wp2
              go_ret
              exact ⟨⟨false, rfl, fun h => by cases h⟩, rfl⟩
        · go_wp2
          go_round
          case rel =>
            refine ⟨k + 1, by omega, by go_num, fun q hq r hr => ?_⟩
            by_cases e : q = k
            · subst e; exact HQ.out r (by omega)
            · exact HN.out q (by omega) r hr
          case measure => simp [intOf]; omega
    · go_wp2
      go_ret
      obtain rfl : k = n := by omega
      exact ⟨⟨true, rfl, fun _ => HN.out⟩, rfl⟩

set_option maxHeartbeats 1000000 in
set_option maxRecDepth 100000 in
theorem depsBytes_any (a : Option Addr) (n c b o : Nat) (A : Nat → Option Addr) (L C rb ro : Nat → Nat) (D : Nat → Nat → Int) (w : World)
    (hn : n ≤ 65536) (hL : ∀ i, i < n → L i ≤ 1048576) (hd : Deps w a n b o A L C rb ro D) :
    Calls Try.prog 8 #[.slice a n c] w fun e w' => (∃ q : Nat, e = .returned (.int .i64 q) ∧ q ≤ 4194304) ∧ w' = w := by
  have HD : Hid (Deps w a n b o A L C rb ro D) := hd
  have HL : Hid (∀ i, i < n → L i ≤ 1048576) := hL
  clear hd hL
  go_enter Try.func8, Try.ntmps8
  go_wp2
  go_loop [3, 4] (fun t i => ∃ k q : Nat, k ≤ n ∧ q ≤ 1048576 ∧ i = .int .i64 k ∧ t = .int .i64 q) (fun _ i => n - (intOf i).toNat)
  case atStart => exact ⟨0, 8 * n, Nat.zero_le _, by omega, rfl, by go_num⟩
  case round =>
    obtain ⟨k, q, hk, hq, rfl, rfl⟩ := hrel
    by_cases hlt : k < n
    · obtain rfl := HD.out.top (by omega)
      have c1 := HD.out.row k hlt
      have hki : (k : Int) < (n : Int) := by omega
      have hlk := HL.out k hlt
      generalize L k = l at *
      by_cases h1 : 131072 < l
      · go_wp2
        go_ret
        exact ⟨⟨2097152, rfl, by omega⟩, rfl⟩
      · by_cases h2 : 1048576 < q + 8 * l
        · go_wp2
          go_ret
          exact ⟨⟨q + 8 * l, by go_num, by omega⟩, rfl⟩
        · go_wp2
          go_round
          case rel => exact ⟨k + 1, q + 8 * l, by omega, by omega, by go_num, by go_num⟩
          case measure => simp [intOf]; omega
    · go_wp2
      go_ret
      exact ⟨⟨q, rfl, by omega⟩, rfl⟩
end Go.Proofs.Qxb6602874a
