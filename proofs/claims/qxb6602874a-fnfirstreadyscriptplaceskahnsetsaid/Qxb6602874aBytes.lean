import Derived.Test.Qxb6602874aClones2
namespace Go.Proofs.Qxb6602874a
open Go.RowKit Go.Deep

def Small (n m : Nat) (L : Nat → Nat) : Prop := n ≤ 1048576 ∧ m ≤ 1048576 ∧ ∀ i, i < n → L i ≤ 1048576

set_option maxHeartbeats 1000000 in
set_option maxRecDepth 100000 in
theorem bytes_7 (a : Option Addr) (n c b o : Nat) (A : Nat → Option Addr) (L C rb ro : Nat → Nat) (D : Nat → Nat → Int) (ap : Option Addr) (m cp : Nat) (w : World)
    (hn : n ≤ 9223372036854775807) (hm : m ≤ 9223372036854775807) (hL : ∀ i, i < n → L i ≤ 9223372036854775807) (hd : Deps w a n b o A L C rb ro D) :
    Calls Try.prog 7 #[.slice a n c, .slice ap m cp] w fun e w' => Answers e (fun q => q = true → Small n m L) ∧ w' = w := by
  have HD : Hid (Deps w a n b o A L C rb ro D) := hd
  have HL : Hid (∀ i, i < n → L i ≤ 9223372036854775807) := hL
  clear hd hL
  by_cases h1 : 1048576 < n
  · go_enter Try.func7, Try.ntmps7
    go_wp2
    go_ret
    exact ⟨⟨false, rfl, fun h => by cases h⟩, rfl⟩
  · go_enter Try.func7, Try.ntmps7
    go_wp2
    go_loop [5, 6] (fun t i => ∃ k q : Nat, k ≤ n ∧ q ≤ 1048576 ∧ i = .int .i64 k ∧ t = .int .i64 q ∧ Hid (∀ j, j < k → L j ≤ 1048576)) (fun _ i => n - (intOf i).toNat)
    case atStart => exact ⟨0, n, Nat.zero_le _, by omega, rfl, by go_num, fun j hj => absurd hj (by omega)⟩
    case round =>
      obtain ⟨k, q, hk, hq, rfl, rfl, HJ⟩ := hrel
      by_cases hlt : k < n
      · obtain rfl := HD.out.top (by omega)
        have c1 := HD.out.row k hlt
        have hki : (k : Int) < (n : Int) := by omega
        have hlk := HL.out k hlt
        generalize hx : L k = l at *
        have HX : Hid (L k = l) := hx
        clear hx
        by_cases h2 : 1048576 < l
        · go_wp2
          go_ret
          exact ⟨⟨false, rfl, fun h => by cases h⟩, rfl⟩
        · by_cases h3 : 1048576 < q + l
          · go_wp2
            go_ret
            exact ⟨⟨false, rfl, fun h => by cases h⟩, rfl⟩
          · go_wp2
            go_round
            case rel =>
              refine ⟨k + 1, q + l, by omega, by omega, by go_num, by go_num, fun j hj => ?_⟩
              by_cases e : j = k
              · subst e; rw [HX.out]; omega
              · exact HJ.out j (by omega)
            case measure => simp [intOf]; omega
      · by_cases h2 : 1048576 < m
        · go_wp2
          go_ret
          exact ⟨⟨false, rfl, fun h => by cases h⟩, rfl⟩
        · by_cases h3 : 1048576 < q + m
          · go_wp2
            go_ret
            exact ⟨⟨false, rfl, fun h => by cases h⟩, rfl⟩
          · go_wp2
            go_ret
            exact ⟨⟨true, rfl, fun _ => ⟨by omega, by omega, fun j hj => HJ.out j (by omega)⟩⟩, rfl⟩

set_option maxHeartbeats 1000000 in
set_option maxRecDepth 100000 in
theorem bytes_14 (a : Option Addr) (n c b o : Nat) (A : Nat → Option Addr) (L C rb ro : Nat → Nat) (D : Nat → Nat → Int) (ap : Option Addr) (m cp : Nat) (w : World)
    (hn : n ≤ 9223372036854775807) (hm : m ≤ 9223372036854775807) (hL : ∀ i, i < n → L i ≤ 9223372036854775807) (hd : Deps w a n b o A L C rb ro D) :
    Calls Try.prog 14 #[.slice a n c, .slice ap m cp] w fun e w' => Answers e (fun q => q = true → Small n m L) ∧ w' = w := by
  have HD : Hid (Deps w a n b o A L C rb ro D) := hd
  have HL : Hid (∀ i, i < n → L i ≤ 9223372036854775807) := hL
  clear hd hL
  by_cases h1 : 1048576 < n
  · go_enter Try.func14, Try.ntmps14
    go_wp2
    go_ret
    exact ⟨⟨false, rfl, fun h => by cases h⟩, rfl⟩
  · go_enter Try.func14, Try.ntmps14
    go_wp2
    go_loop [5, 6] (fun t i => ∃ k q : Nat, k ≤ n ∧ q ≤ 1048576 ∧ i = .int .i64 k ∧ t = .int .i64 q ∧ Hid (∀ j, j < k → L j ≤ 1048576)) (fun _ i => n - (intOf i).toNat)
    case atStart => exact ⟨0, n, Nat.zero_le _, by omega, rfl, by go_num, fun j hj => absurd hj (by omega)⟩
    case round =>
      obtain ⟨k, q, hk, hq, rfl, rfl, HJ⟩ := hrel
      by_cases hlt : k < n
      · obtain rfl := HD.out.top (by omega)
        have c1 := HD.out.row k hlt
        have hki : (k : Int) < (n : Int) := by omega
        have hlk := HL.out k hlt
        generalize hx : L k = l at *
        have HX : Hid (L k = l) := hx
        clear hx
        by_cases h2 : 1048576 < l
        · go_wp2
          go_ret
          exact ⟨⟨false, rfl, fun h => by cases h⟩, rfl⟩
        · by_cases h3 : 1048576 < q + l
          · go_wp2
            go_ret
            exact ⟨⟨false, rfl, fun h => by cases h⟩, rfl⟩
          · go_wp2
            go_round
            case rel =>
              refine ⟨k + 1, q + l, by omega, by omega, by go_num, by go_num, fun j hj => ?_⟩
              by_cases e : j = k
              · subst e; rw [HX.out]; omega
              · exact HJ.out j (by omega)
            case measure => simp [intOf]; omega
      · by_cases h2 : 1048576 < m
        · go_wp2
          go_ret
          exact ⟨⟨false, rfl, fun h => by cases h⟩, rfl⟩
        · by_cases h3 : 1048576 < q + m
          · go_wp2
            go_ret
            exact ⟨⟨false, rfl, fun h => by cases h⟩, rfl⟩
          · go_wp2
            go_ret
            exact ⟨⟨true, rfl, fun _ => ⟨by omega, by omega, fun j hj => HJ.out j (by omega)⟩⟩, rfl⟩
end Go.Proofs.Qxb6602874a
