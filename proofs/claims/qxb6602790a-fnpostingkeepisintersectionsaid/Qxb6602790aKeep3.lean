import Derived.Test.Qxb6602790aKeep2
namespace Go.Proofs.Qxb6602790a
open Go.RowKit Go.Deep KeepLaw

theorem zzkeep_bits (x : Option Addr) (y z : Nat) (af ab : Option Addr) (n m cf cb b bo : Nat) (F G : Nat → Int) (w : World) (hn : n ≤ 1048576) (hnm : n ≤ m) (hm : m ≤ 1048576) (hab : ab ≠ none)
    (hb : 0 < n → af = some ⟨b, 0, none⟩ ∧ w.rowIs b 40 n (fun i => .int .u64 (F i)))
    (ho : 0 < n → ab = some ⟨bo, 0, none⟩ ∧ w.rowIs bo 40 m (fun i => .int .u64 (G i))) (hne : 0 < n → b ≠ bo) :
    Calls Try.prog 22 #[.slice x y z, .slice ab m cb, .slice af n cf] w fun e w' => e = .returned (.bool (anyNZ (fun i => bits .and .u64 (F i) (G i)) n)) ∧ (0 < n → w'.rowIs b 40 n (fun i => .int .u64 (bits .and .u64 (F i) (G i)))) ∧ w.grownBy w' (some b) := by
  go_enter Try.func22, Try.ntmps22
  go_wp2_with fail
  refine (keep_bits (.slice x y z) af ab n m cf cb b bo F G _ hn hnm hm hab ⟨x, y, z, rfl⟩ hb ho hne).mono ?_
  rintro e w1 ⟨rfl, h1, h2⟩
  go_wp2
  go_ret
  exact ⟨rfl, h1, h2⟩

theorem zzkeep_scopes (sa af : Option Addr) (ns cs n cf bs b : Nat) (ss : List Int) (F : Nat → Int) (w : World) (hn : n ≤ 1048576) (hns : ns ≤ 1048576) (hss : ss.length = ns)
    (hb : 0 < n → af = some ⟨b, 0, none⟩ ∧ w.rowIs b 40 n (fun i => .int .u64 (F i)))
    (ho : 0 < ns → sa = some ⟨bs, 0, none⟩ ∧ w.rowIs bs 21 ns (fun i => .int .i32 (ss.getD i 0))) (hne : 0 < n → 0 < ns → b ≠ bs)
    (hup : Rising ss ns) (hpos : ∀ i, i < ns → 0 ≤ ss.getD i 0 ∧ ss.getD i 0 ≤ 2147483647) :
    Calls Try.prog 22 #[.slice sa ns cs, .slice none 0 0, .slice af n cf] w fun e w' => e = .returned (.bool (anyNZ (fun i => bits .and .u64 (F i) (heldAt orBit ss i)) n)) ∧ (0 < n → w'.rowIs b 40 n (fun i => .int .u64 (bits .and .u64 (F i) (heldAt orBit ss i)))) ∧ w.grownBy w' (some b) := by
  have HSS : Hid (ss.length = ns) := hss
  clear hss
  go_enter Try.func22, Try.ntmps22
  go_wp2_with fail
  refine (keep_scopes sa af ns cs n cf bs b ss F _ hn hns HSS.out hb ho hne hup hpos).mono ?_
  rintro e w1 ⟨rfl, h1, h2⟩
  go_wp2
  go_ret
  exact ⟨rfl, h1, h2⟩

/-! ### zzBytes -/
theorem bytes_yes (a0 a1 a2 : Option Addr) (n0 c0 n1 c1 n2 c2 : Nat) (w : World) (h : n0 + n1 + n2 ≤ 1048576) :
    Calls Try.prog 18 #[.slice a0 n0 c0, .slice a1 n1 c1, .slice a2 n2 c2] w fun e w' => e = .returned (.bool true) ∧ w' = w := by
  go_enter Try.func18, Try.ntmps18
  go_wp2
  go_ret
  exact ⟨rfl, rfl⟩
theorem bytes_no (a0 a1 a2 : Option Addr) (n0 c0 n1 c1 n2 c2 : Nat) (w : World) (h0 : n0 ≤ 9223372036854775807) (h1 : n1 ≤ 9223372036854775807) (h2 : n2 ≤ 9223372036854775807) (h : ¬ n0 + n1 + n2 ≤ 1048576) :
    Calls Try.prog 18 #[.slice a0 n0 c0, .slice a1 n1 c1, .slice a2 n2 c2] w fun e w' => e = .returned (.bool false) ∧ w' = w := by
  by_cases k0 : 1048576 < n0
  · go_enter Try.func18, Try.ntmps18
    go_wp2
    go_ret
    exact ⟨rfl, rfl⟩
  · by_cases k1 : 1048576 < n1
    · go_enter Try.func18, Try.ntmps18
      go_wp2
      go_ret
      exact ⟨rfl, rfl⟩
    · by_cases k2 : 1048576 < n0 + n1
      · go_enter Try.func18, Try.ntmps18
        go_wp2
        go_ret
        exact ⟨rfl, rfl⟩
      · by_cases k3 : 1048576 < n2
        · go_enter Try.func18, Try.ntmps18
          go_wp2
          go_ret
          exact ⟨rfl, rfl⟩
        · go_enter Try.func18, Try.ntmps18
          go_wp2
          go_ret
          exact ⟨rfl, rfl⟩

/-! ### lawKeepDomain -/
theorem domain_bits (a0 a1 a2 : Option Addr) (n0 c0 n1 c1 n2 c2 : Nat) (w : World) (ha : a1 ≠ none) :
    Calls Try.prog 19 #[.slice a0 n0 c0, .slice a1 n1 c1, .slice a2 n2 c2] w fun e w' => e = .returned (.bool (decide (n2 ≤ n1))) ∧ w' = w := by
  have hq := fun w => run_neq_slice_nil_any (P := Try.prog) w 36 40 a1 n1 c1 0 0 Try.underlying36
  have hsn : a1.isNone = false := by cases a1 with | none => exact absurd rfl ha | some _ => rfl
  go_enter Try.func19, Try.ntmps19
  go_wp2
  go_ret
  exact ⟨rfl, rfl⟩

/-- The scopes: either the domain says yes and they rise from nought on, or it says no. -/
theorem domain_scopes (x : Option Addr) (a2 : Option Addr) (n0 c0 n2 c2 : Nat) (ss : List Int) (w : World) (h0 : n0 ≤ 1048576)
    (hc : ∀ ad, x = some ad → ∀ j, j < n0 → w.cell? (ad.add j) = some (.int .i32 (ss.getD j 0))) (hx : 0 < n0 → ∃ ad, x = some ad) :
    Calls Try.prog 19 #[.slice x n0 c0, .slice none 0 0, .slice a2 n2 c2] w fun e w' => ((e = .returned (.bool true) ∧ Rising ss n0 ∧ (0 < n0 → 0 ≤ ss.getD 0 0)) ∨ e = .returned (.bool false)) ∧ Below w.heap.size w w' := by
  have hq := fun w => run_neq_slice_nil_any (P := Try.prog) w 36 40 none 0 0 0 0 Try.underlying36
  have HC : Hid (∀ ad, x = some ad → ∀ j, j < n0 → w.cell? (ad.add j) = some (.int .i32 (ss.getD j 0))) := hc
  have HX : Hid (0 < n0 → ∃ ad, x = some ad) := hx
  clear hc hx
  go_enter Try.func19, Try.ntmps19
  go_wp2
  go_loopw [7] (fun i wr => ∃ k : Nat, 1 ≤ k ∧ (k ≤ n0 ∨ k = 1) ∧ i = .int .i64 k ∧ Hid (Rising ss k) ∧ Hid (Below w.heap.size w wr)) (fun i _ => n0 - (intOf i).toNat)
  case atStart => exact ⟨1, Nat.le_refl _, .inr rfl, rfl, fun j hj => absurd hj (by omega), Below.refl _ _⟩
  case round =>
    obtain ⟨k, hk1, hk, rfl, HR, HW⟩ := hrel
    by_cases hlt : k < n0
    · obtain ⟨ad, hxa⟩ := HX.out (by omega)
      obtain ⟨b, off, rfl, hbl, hcl⟩ := cells_plain (HC.out ad hxa) (by omega)
      subst hxa
      have g1 : wr.cell? ⟨b, off + k, none⟩ = some (.int .i32 (ss.getD k 0)) := (HW.out.cell (p := ⟨b, off + k, none⟩) hbl).trans (hcl k hlt)
      have g0 : wr.cell? ⟨b, off + (k - 1), none⟩ = some (.int .i32 (ss.getD (k - 1) 0)) := (HW.out.cell (p := ⟨b, off + (k - 1), none⟩) hbl).trans (hcl (k - 1) (by omega))
      clear hcl
      have hi1 : (k : Int) < (n0 : Int) := by omega
      have hi2 : (k : Int) - 1 < (n0 : Int) := by omega
      have hi3 : (0 : Int) ≤ (k : Int) - 1 := by omega
      generalize hu : ss.getD k 0 = u at *
      generalize hv : ss.getD (k - 1) 0 = v at *
      have HU : Hid (ss.getD k 0 = u) := hu
      have HV : Hid (ss.getD (k - 1) 0 = v) := hv
      clear hu hv
      by_cases huv : u < v
      · go_wp2
        go_region
        go_wp2
        go_ret
        exact ⟨.inr rfl, HW.out.drew⟩
      · go_wp2
        go_region
        go_wp2
        go_roundw
        case rel =>
          refine ⟨k + 1, by omega, .inl (by omega), by go_num, fun j hj => ?_, HW.out.drew⟩
          by_cases e : j + 1 = k
          · subst e
            have h1 := HU.out; have h2 := HV.out
            simp only [Nat.add_sub_cancel] at h2
            rw [h1, h2]; omega
          · exact HR.out j (by omega)
        case measure => simp [intOf]; omega
    · by_cases hn0 : n0 = 0
      · have hz : ((n0 : Int) == 0) = true := beq_iff_eq.2 (by omega)
        have HN0 : Hid (n0 = 0) := hn0
        clear hn0
        go_wp2
        go_ret
        exact ⟨.inl ⟨rfl, fun j hj => by have := HN0.out; omega, fun h => by have := HN0.out; omega⟩, HW.out⟩
      · have hz : ((n0 : Int) == 0) = false := beq_eq_false_iff_ne.2 (by omega)
        have hkn : k = n0 := by omega
        subst hkn
        obtain ⟨ad, hxa⟩ := HX.out (by omega)
        obtain ⟨b, off, rfl, hbl, hcl⟩ := cells_plain (HC.out ad hxa) (by omega)
        subst hxa
        have g0 : wr.cell? ⟨b, off, none⟩ = some (.int .i32 (ss.getD 0 0)) := (HW.out.cell (p := ⟨b, off, none⟩) hbl).trans (by simpa using hcl 0 (by omega))
        have hi0 : (0 : Int) < (k : Int) := by omega
        clear hcl
        generalize hu : ss.getD 0 0 = u at *
        have HU : Hid (ss.getD 0 0 = u) := hu
        clear hu
        by_cases h0u : 0 ≤ u
        · go_wp2
          go_ret
          exact ⟨.inl ⟨rfl, HR.out, fun _ => by rw [HU.out]; exact h0u⟩, HW.out⟩
        · have hd : decide (0 ≤ u) = false := decide_eq_false h0u
          go_wp2
          go_ret
          exact ⟨.inr rfl, HW.out⟩
end Go.Proofs.Qxb6602790a
