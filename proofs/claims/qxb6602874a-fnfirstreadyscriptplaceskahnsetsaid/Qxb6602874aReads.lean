import Derived.Test.Qxb6602874aRows
import Derived.Test.Qxb6602874aCommon
import Derived.WalkMore
namespace Go.Proofs.Qxb6602874a
open Go.RowKit Go.Deep

/-- THE LISTS OF DEPENDENCIES AS THEY LIE IN MEMORY: a slice of n rows; row i is '.slice (A i) (L i) (C i)', its numbers 'D i j'. -/
structure Deps (w : World) (a : Option Addr) (n b o : Nat) (A : Nat → Option Addr) (L C rb ro : Nat → Nat) (D : Nat → Nat → Int) : Prop where
  top : 0 < n → a = some ⟨b, o, none⟩
  row : ∀ i, i < n → w.cell? ⟨b, o + i, none⟩ = some (.slice (A i) (L i) (C i))
  lies : ∀ i, i < n → 0 < L i → A i = some ⟨rb i, ro i, none⟩
  num : ∀ i, i < n → ∀ j, j < L i → w.cell? ⟨rb i, ro i + j, none⟩ = some (.int .i64 (D i j))

/-- The flags as they lie in memory. -/
structure Flags (w : World) (a : Option Addr) (m b : Nat) (P : Nat → Bool) : Prop where
  top : 0 < m → a = some ⟨b, 0, none⟩
  flag : ∀ i, i < m → w.cell? ⟨b, i, none⟩ = some (.bool (P i))

/-- Component i is not placed and all its dependencies are. -/
def Ready (P : Nat → Bool) (L : Nat → Nat) (D : Nat → Nat → Int) (i : Nat) : Prop := P i = false ∧ ∀ j, j < L i → P (D i j).toNat = true

def InRange (n m : Nat) (L : Nat → Nat) (D : Nat → Nat → Int) : Prop := ∀ i, i < n → ∀ j, j < L i → 0 ≤ D i j ∧ D i j < m

/-- What firstReady answers. -/
def First (n : Nat) (P : Nat → Bool) (L : Nat → Nat) (D : Nat → Nat → Int) (r : Int) : Prop :=
  (r = -1 ∧ ∀ i, i < n → ¬ Ready P L D i) ∨ ∃ i : Nat, r = i ∧ i < n ∧ Ready P L D i ∧ ∀ j, j < i → ¬ Ready P L D j

set_option maxHeartbeats 1000000 in
set_option maxRecDepth 100000 in
theorem first_any (a : Option Addr) (n c b o : Nat) (A : Nat → Option Addr) (L C rb ro : Nat → Nat) (D : Nat → Nat → Int) (ap : Option Addr) (m cp bp : Nat) (P : Nat → Bool) (w : World)
    (hn : n ≤ 1048576) (hm : m ≤ 1048576) (hnm : n ≤ m) (hL : ∀ i, i < n → L i ≤ 1048576) (hd : Deps w a n b o A L C rb ro D) (hf : Flags w ap m bp P) (hr : InRange n m L D) :
    Calls Try.prog 22 #[.slice a n c, .slice ap m cp] w fun e w' => (∃ r, e = .returned (.int .i64 r) ∧ First n P L D r) ∧ w' = w := by
  have HD : Hid (Deps w a n b o A L C rb ro D) := hd
  have HF : Hid (Flags w ap m bp P) := hf
  have HR : Hid (InRange n m L D) := hr
  have HL : Hid (∀ i, i < n → L i ≤ 1048576) := hL
  clear hd hf hr hL
  go_enter Try.func22, Try.ntmps22
  go_wp2
  go_step3
  go_wp2
  go_step3
  go_wp2
  go_loop [11] (fun i => ∃ k : Nat, k ≤ n ∧ i = .int .i64 k ∧ Hid (∀ j, j < k → ¬ Ready P L D j)) (fun i => n - (intOf i).toNat)
  case atStart => exact ⟨0, Nat.zero_le _, rfl, fun j hj => absurd hj (by omega)⟩
  case round =>
    obtain ⟨k, hk, rfl, HN⟩ := hrel
    by_cases hlt : k < n
    · obtain rfl := HD.out.top (by omega)
      obtain rfl := HF.out.top (by omega)
      have c1 := HD.out.row k hlt
      have c2 := HF.out.flag k (by omega)
      have hki : (k : Int) < (n : Int) := by omega
      have hkm : (k : Int) < (m : Int) := by omega
      have hlk := HL.out k hlt
      generalize hpk : P k = pk at *
      have HPK : Hid (P k = pk) := hpk
      clear hpk
      cases pk with
      | true =>
        go_wp2
        go_round
        case rel =>
          refine ⟨k + 1, by omega, by go_num, fun j hj hr => ?_⟩
          by_cases e : j = k
          · subst e; have := hr.1; rw [HPK.out] at this; cases this
          · exact HN.out j (by omega) hr
        case measure => simp [intOf]; omega
      | false =>
        go_wp2
        go_loop [22] (fun i => ∃ j : Nat, j ≤ L k ∧ i = .int .i64 j ∧ Hid (∀ q, q < j → P (D k q).toNat = true)) (fun i => L k - (intOf i).toNat)
        case atStart => exact ⟨0, Nat.zero_le _, rfl, fun j hj => absurd hj (by omega)⟩
        case round =>
          obtain ⟨j, hj, rfl, HQ⟩ := hrel
          by_cases hjl : j < L k
          · have hal := HD.out.lies k hlt (by omega)
            have c3 := HD.out.num k hlt j hjl
            obtain ⟨h0, h1⟩ := HR.out k hlt j hjl
            obtain ⟨d, hd⟩ : ∃ d : Nat, D k j = d := ⟨(D k j).toNat, by omega⟩
            have HDD : Hid (D k j = d) := hd
            rw [hd] at c3 h1 h0
            clear hd
            have c4 := HF.out.flag d (by omega)
            have hji : (j : Int) < (L k : Int) := by omega
            generalize hpd : P d = pd at *
            have HPD : Hid (P d = pd) := hpd
            clear hpd
            rw [hal] at c1 ⊢
            cases pd with
            | true =>
              go_wp2
              go_round
              case rel =>
                refine ⟨j + 1, by omega, by go_num, fun q hq => ?_⟩
                by_cases e : q = j
                · subst e; rw [HDD.out]; exact HPD.out
                · exact HQ.out q (by omega)
              case measure => simp [intOf]; omega
            | false =>
              go_wp2
              go_round
              case rel =>
                refine ⟨k + 1, by omega, by go_num, fun q hq hr => ?_⟩
                by_cases e : q = k
                · subst e
                  have := hr.2 j hjl
                  rw [HDD.out] at this
                  rw [show ((d : Int)).toNat = d from rfl, HPD.out] at this
                  cases this
                · exact HN.out q (by omega) hr
              case measure => simp [intOf]; omega
          · go_wp2
            go_ret
            refine ⟨⟨k, rfl, .inr ⟨k, rfl, hlt, ⟨HPK.out, fun q hq => HQ.out q (by omega)⟩, HN.out⟩⟩, rfl⟩
    · go_wp2
      go_ret
      exact ⟨⟨-1, rfl, .inl ⟨rfl, fun i hi => HN.out i (by omega)⟩⟩, rfl⟩

theorem zzfirst_any (a : Option Addr) (n c b o : Nat) (A : Nat → Option Addr) (L C rb ro : Nat → Nat) (D : Nat → Nat → Int) (ap : Option Addr) (m cp bp : Nat) (P : Nat → Bool) (w : World)
    (hn : n ≤ 1048576) (hm : m ≤ 1048576) (hnm : n ≤ m) (hL : ∀ i, i < n → L i ≤ 1048576) (hd : Deps w a n b o A L C rb ro D) (hf : Flags w ap m bp P) (hr : InRange n m L D) :
    Calls Try.prog 12 #[.slice a n c, .slice ap m cp] w fun e w' => (∃ r, e = .returned (.int .i64 r) ∧ First n P L D r) ∧ w' = w := by
  have HL : Hid (∀ i, i < n → L i ≤ 1048576) := hL
  clear hL
  go_enter Try.func12, Try.ntmps12
  go_wp2_with fail
  refine (first_any a n c b o A L C rb ro D ap m cp bp P _ hn hm hnm HL.out hd hf hr).mono ?_
  rintro e w1 ⟨⟨r, rfl, h⟩, rfl⟩
  go_wp2
  go_ret
  exact ⟨⟨r, rfl, h⟩, rfl⟩

set_option maxHeartbeats 1000000 in
set_option maxRecDepth 100000 in
theorem unplaced_any (a : Option Addr) (l c b o : Nat) (d : Nat → Int) (ap : Option Addr) (m cp bp : Nat) (P : Nat → Bool) (w : World) (hl : l ≤ 1048576) (hm : m ≤ 1048576)
    (hlies : 0 < l → a = some ⟨b, o, none⟩) (hnum : ∀ j, j < l → w.cell? ⟨b, o + j, none⟩ = some (.int .i64 (d j))) (hf : Flags w ap m bp P) (hr : ∀ j, j < l → 0 ≤ d j ∧ d j < m) :
    Calls Try.prog 23 #[.slice a l c, .slice ap m cp] w fun e w' => (∃ q : Nat, e = .returned (.int .i64 q) ∧ (q = 0 ↔ ∀ j, j < l → P (d j).toNat = true)) ∧ w' = w := by
  have HI : Hid (0 < l → a = some ⟨b, o, none⟩) := hlies
  have HD : Hid (∀ j, j < l → w.cell? ⟨b, o + j, none⟩ = some (.int .i64 (d j))) := hnum
  have HF : Hid (Flags w ap m bp P) := hf
  have HR : Hid (∀ j, j < l → 0 ≤ d j ∧ d j < m) := hr
  clear hlies hnum hf hr
  go_enter Try.func23, Try.ntmps23
  go_wp2
  go_loop [5, 6] (fun cc i => ∃ k q : Nat, k ≤ l ∧ q ≤ k ∧ i = .int .i64 k ∧ cc = .int .i64 q ∧ Hid (q = 0 ↔ ∀ j, j < k → P (d j).toNat = true)) (fun _ i => l - (intOf i).toNat)
  case atStart => exact ⟨0, 0, Nat.zero_le _, Nat.zero_le _, rfl, rfl, ⟨fun _ j hj => absurd hj (by omega), fun _ => rfl⟩⟩
  case round =>
    obtain ⟨k, q, hk, hqk, rfl, rfl, HQ⟩ := hrel
    by_cases hlt : k < l
    · obtain rfl := HI.out (by omega)
      have c1 := HD.out k hlt
      obtain ⟨h0, h1⟩ := HR.out k hlt
      obtain ⟨x, hx⟩ : ∃ x : Nat, d k = x := ⟨(d k).toNat, by omega⟩
      have HX : Hid (d k = x) := hx
      rw [hx] at c1 h0 h1
      clear hx
      obtain rfl := HF.out.top (by omega)
      have c2 := HF.out.flag x (by omega)
      have hki : (k : Int) < (l : Int) := by omega
      generalize hp : P x = px at *
      have HP : Hid (P x = px) := hp
      clear hp
      cases px with
      | true =>
        go_wp2
        go_round
        case rel =>
          refine ⟨k + 1, q, by omega, by omega, by go_num, rfl, ⟨fun h j hj => ?_, fun h => HQ.out.2 (fun j hj => h j (by omega))⟩⟩
          by_cases e : j = k
          · subst e; rw [HX.out]; exact HP.out
          · exact HQ.out.1 h j (by omega)
        case measure => simp [intOf]; omega
      | false =>
        go_wp2
        go_round
        case rel =>
          refine ⟨k + 1, q + 1, by omega, by omega, by go_num, by go_num, ⟨fun h => by omega, fun h => ?_⟩⟩
          have := h k (by omega)
          rw [HX.out] at this
          rw [show ((x : Int)).toNat = x from rfl, HP.out] at this
          cases this
        case measure => simp [intOf]; omega
    · go_wp2
      go_ret
      obtain rfl : k = l := by omega
      exact ⟨⟨q, rfl, HQ.out⟩, rfl⟩

set_option maxHeartbeats 1000000 in
set_option maxRecDepth 100000 in
theorem ready_any (a : Option Addr) (n c b o : Nat) (A : Nat → Option Addr) (L C rb ro : Nat → Nat) (D : Nat → Nat → Int) (ap : Option Addr) (m cp bp : Nat) (P : Nat → Bool) (i : Nat) (w : World)
    (hn : n ≤ 1048576) (hm : m ≤ 1048576) (hnm : n ≤ m) (hi : i < n) (hL : ∀ i, i < n → L i ≤ 1048576) (hd : Deps w a n b o A L C rb ro D) (hf : Flags w ap m bp P) (hr : InRange n m L D) :
    Calls Try.prog 13 #[.slice a n c, .slice ap m cp, .int .i64 i] w fun e w' => (∃ q : Bool, e = .returned (.bool q) ∧ (q = true ↔ Ready P L D i)) ∧ w' = w := by
  have HD : Hid (Deps w a n b o A L C rb ro D) := hd
  have HF : Hid (Flags w ap m bp P) := hf
  have HR : Hid (InRange n m L D) := hr
  have HL : Hid (∀ i, i < n → L i ≤ 1048576) := hL
  clear hd hf hr hL
  obtain rfl := HD.out.top (by omega)
  obtain rfl := HF.out.top (by omega)
  have c1 := HD.out.row i hi
  have c2 := HF.out.flag i (by omega)
  have hki : (i : Int) < (n : Int) := by omega
  have hkm : (i : Int) < (m : Int) := by omega
  generalize hp : P i = px at *
  have HP : Hid (P i = px) := hp
  clear hp
  cases px with
  | true =>
    go_enter Try.func13, Try.ntmps13
    go_wp2
    go_ret
    exact ⟨⟨false, rfl, ⟨(fun h => by cases h), fun h => by have := h.1; rw [HP.out] at this; cases this⟩⟩, rfl⟩
  | false =>
    go_enter Try.func13, Try.ntmps13
    go_wp2_with fail
    refine (unplaced_any (A i) (L i) (C i) (rb i) (ro i) (D i) _ m cp bp P _ (HL.out i hi) hm (HD.out.lies i hi) (HD.out.num i hi) HF.out (HR.out i hi)).mono ?_
    rintro e w1 ⟨⟨q, rfl, hq⟩, rfl⟩
    by_cases q0 : q = 0
    · have HQ : Hid (∀ j, j < L i → P (D i j).toNat = true) := hq.1 q0
      subst q0
      clear hq
      go_wp2
      go_ret
      exact ⟨⟨true, rfl, ⟨fun _ => ⟨HP.out, HQ.out⟩, fun _ => rfl⟩⟩, rfl⟩
    · have HQ : Hid (¬ ∀ j, j < L i → P (D i j).toNat = true) := fun h => q0 (hq.2 h)
      have hb : ((q : Int) == 0) = false := beq_eq_false_iff_ne.2 (by omega)
      clear hq q0
      go_wp2
      go_ret
      exact ⟨⟨false, rfl, ⟨(fun h => by cases h), fun h => absurd h.2 HQ.out⟩⟩, rfl⟩

end Go.Proofs.Qxb6602874a
