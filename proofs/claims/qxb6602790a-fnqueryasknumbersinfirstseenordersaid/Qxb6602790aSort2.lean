import Derived.Test.Qxb6602790aSort1
namespace Go.Proofs.Qxb6602790a
open Go.RowKit Go.Deep Go.Sort

set_option maxHeartbeats 8000000 in
set_option maxRecDepth 100000 in
theorem sift (w0 : World) (b C off cap n lo hi F : Nat) (d : Array Int) (w : World) (h : SAt w0 b C off d w) (hn : d.size = n) (hlo : lo ≤ hi) (hF : F + hi ≤ n) (hsz : n < 4611686018427387904) :
    Calls Try.prog 62 #[.slice (some ⟨b, off, none⟩) n cap, .int .i64 lo, .int .i64 hi, .int .i64 F] w fun x w' => x = .returned (.tuple #[]) ∧ SAt w0 b C off (siftDown ltInt hi F lo d) w' := by
  have H : Hid (SAt w0 b C off d w) := h
  have HN : Hid (d.size = n) := hn
  clear h hn
  go_enter Try.func62, Try.ntmps62
  go_wp2
  go_loopw [8] (fun vi wr => ∃ (r : Nat) (dk : Array Int), vi = .int .i64 r ∧ r ≤ hi ∧ Hid (dk.size = n) ∧ Hid (SAt w0 b C off dk wr) ∧
      Hid (siftDown ltInt hi F r dk = siftDown ltInt hi F lo d)) (fun vi _ => hi - (intOf vi).toNat)
  case atStart => exact ⟨lo, d, rfl, hlo, HN, H, rfl⟩
  case round =>
    obtain ⟨r, dk, rfl, hr, HS, HW, HO⟩ := hrel
    obtain ⟨G, hG⟩ : ∃ G : Nat → Int, ∀ t, G t = dk[t]! := ⟨fun t => dk[t]!, fun _ => rfl⟩
    have hs := HS.out
    have hcw : ∀ t, t < n → wr.cell? ⟨b, off + t, none⟩ = some (.int .i32 (G t)) := fun t ht => by rw [hG]; exact HW.out.cell (by omega)
    have hfw : ∀ t, t < n → wr.frozen? ⟨b, off + t, none⟩ = false := fun t _ => HW.out.frozen t
    have HG : Hid (∀ t, G t = dk[t]!) := hG
    clear hG hs
    by_cases h0 : hi ≤ 2 * r + 1
    · have h0z : (hi : Int) ≤ 2 * (r : Int) + 1 := by omega
      go_wp2
      go_end0
      refine ⟨rfl, ?_⟩
      rw [← HO.out, sift_end ltInt dk h0]
      exact HW.out
    · have h0z : ¬ ((hi : Int) ≤ 2 * (r : Int) + 1) := by omega
      by_cases h1 : 2 * r + 2 < hi
      · have h1z : 2 * (r : Int) + 1 + 1 < (hi : Int) := by omega
        go_wp2_with fail
        go_big_quiet (first | (go_at_call 56; refine Calls.quiet_of_same (less _ _ _)))
        go_wp2_with fail
        · have hL : ltInt (G (F + 2 * r + 1)) (G (F + 2 * r + 2)) = true := by assumption
          have HC : Child ltInt dk F hi r (2 * r + 2) := (.inl ⟨h1, by rw [← HG.out, ← HG.out]; exact hL, rfl⟩)
          (try clear hL)
          have HW1 : Hid (SAt w0 b C off dk (wr.drewN nq)) := HW.out.drewN nq
          clear hcw hfw
          generalize wr.drewN nq = wr2 at HW1 ⊢
          clear nq
          have hs := HS.out
          have hcw2 : ∀ t, t < n → wr2.cell? ⟨b, off + t, none⟩ = some (.int .i32 (G t)) := fun t ht => by rw [HG.out]; exact HW1.out.cell (by omega)
          have hfw2 : ∀ t, t < n → wr2.frozen? ⟨b, off + t, none⟩ = false := fun t _ => HW1.out.frozen t
          clear hs
          go_big_quiet (first | (go_at_call 56; refine Calls.quiet_of_same (less _ _ _)))
          go_wp2_with fail
          · have hS : (!ltInt (G (F + r)) (G (F + 2 * r + 2))) = true := by assumption
            (try simp only [Exit.inBlock, Exit.then])
            refine bodyPost_ret (results_none rfl _ _ _) rfl ?_
            refine ⟨rfl, ?_⟩
            rw [← HO.out, sift_stop ltInt (c := 2 * r + 2) dk (by omega) HC (by rw [← HG.out, ← HG.out]; simpa [Nat.add_assoc] using hS)]
            exact HW1.out.drewN _
          · have hS : (!ltInt (G (F + r)) (G (F + 2 * r + 2))) = false := by assumption
            have HL : Hid (ltInt dk[F + r]! dk[F + (2 * r + 2)]! = true) := by show _ = _; rw [← HG.out, ← HG.out]; simpa [Nat.add_assoc] using hS
            clear hS
            have HW3 : Hid (SAt w0 b C off dk (wr2.drewN nq)) := HW1.out.drewN nq
            clear hcw2 hfw2
            generalize wr2.drewN nq = wr3 at HW3 ⊢
            have hs := HS.out
            have hcw3 : ∀ t, t < n → wr3.cell? ⟨b, off + t, none⟩ = some (.int .i32 (G t)) := fun t ht => by rw [HG.out]; exact HW3.out.cell (by omega)
            have hfw3 : ∀ t, t < n → wr3.frozen? ⟨b, off + t, none⟩ = false := fun t _ => HW3.out.frozen t
            clear hs
            go_region
            go_wp2
            go_roundw
            case rel =>
              have hs := HS.out
              refine ⟨2 * r + 2, swp dk (F + r) (F + (2 * r + 2)), by go_num, by omega, by show _ = _; rw [size_swp]; exact HS.out, ?_, ?_⟩
              · have := (HW3.out.swap (i := F + r) (j := F + (2 * r + 2)) (by omega) (by omega)).drew
                rw [HG.out, HG.out]
                exact this
              · show _ = _
                rw [← HO.out, sift_go ltInt dk (by omega) HC HL.out]
            case measure => simp [intOf]; omega
        · have hL : ltInt (G (F + 2 * r + 1)) (G (F + 2 * r + 2)) = false := by assumption
          have HC : Child ltInt dk F hi r (2 * r + 1) := (.inr ⟨fun _ => by rw [← HG.out, ← HG.out]; exact hL, rfl⟩)
          (try clear hL)
          have HW1 : Hid (SAt w0 b C off dk (wr.drewN nq)) := HW.out.drewN nq
          clear hcw hfw
          generalize wr.drewN nq = wr2 at HW1 ⊢
          clear nq
          have hs := HS.out
          have hcw2 : ∀ t, t < n → wr2.cell? ⟨b, off + t, none⟩ = some (.int .i32 (G t)) := fun t ht => by rw [HG.out]; exact HW1.out.cell (by omega)
          have hfw2 : ∀ t, t < n → wr2.frozen? ⟨b, off + t, none⟩ = false := fun t _ => HW1.out.frozen t
          clear hs
          go_big_quiet (first | (go_at_call 56; refine Calls.quiet_of_same (less _ _ _)))
          go_wp2_with fail
          · have hS : (!ltInt (G (F + r)) (G (F + 2 * r + 1))) = true := by assumption
            (try simp only [Exit.inBlock, Exit.then])
            refine bodyPost_ret (results_none rfl _ _ _) rfl ?_
            refine ⟨rfl, ?_⟩
            rw [← HO.out, sift_stop ltInt (c := 2 * r + 1) dk (by omega) HC (by rw [← HG.out, ← HG.out]; simpa [Nat.add_assoc] using hS)]
            exact HW1.out.drewN _
          · have hS : (!ltInt (G (F + r)) (G (F + 2 * r + 1))) = false := by assumption
            have HL : Hid (ltInt dk[F + r]! dk[F + (2 * r + 1)]! = true) := by show _ = _; rw [← HG.out, ← HG.out]; simpa [Nat.add_assoc] using hS
            clear hS
            have HW3 : Hid (SAt w0 b C off dk (wr2.drewN nq)) := HW1.out.drewN nq
            clear hcw2 hfw2
            generalize wr2.drewN nq = wr3 at HW3 ⊢
            have hs := HS.out
            have hcw3 : ∀ t, t < n → wr3.cell? ⟨b, off + t, none⟩ = some (.int .i32 (G t)) := fun t ht => by rw [HG.out]; exact HW3.out.cell (by omega)
            have hfw3 : ∀ t, t < n → wr3.frozen? ⟨b, off + t, none⟩ = false := fun t _ => HW3.out.frozen t
            clear hs
            go_region
            go_wp2
            go_roundw
            case rel =>
              have hs := HS.out
              refine ⟨2 * r + 1, swp dk (F + r) (F + (2 * r + 1)), by go_num, by omega, by show _ = _; rw [size_swp]; exact HS.out, ?_, ?_⟩
              · have := (HW3.out.swap (i := F + r) (j := F + (2 * r + 1)) (by omega) (by omega)).drew
                rw [HG.out, HG.out]
                exact this
              · show _ = _
                rw [← HO.out, sift_go ltInt dk (by omega) HC HL.out]
            case measure => simp [intOf]; omega
      · have h1z : decide (2 * (r : Int) + 1 + 1 < (hi : Int)) = false := decide_eq_false (by omega)
        go_wp2_with fail
        go_big_quiet (first | (go_at_call 56; refine Calls.quiet_of_same (less _ _ _)))
        go_wp2_with fail
        have HC : Child ltInt dk F hi r (2 * r + 1) := (.inr ⟨fun h => absurd h h1, rfl⟩)
        (try clear hL)
        have HW1 : Hid (SAt w0 b C off dk (wr.drewN nq)) := HW.out.drewN nq
        clear hcw hfw
        generalize wr.drewN nq = wr2 at HW1 ⊢
        clear nq
        have hs := HS.out
        have hcw2 : ∀ t, t < n → wr2.cell? ⟨b, off + t, none⟩ = some (.int .i32 (G t)) := fun t ht => by rw [HG.out]; exact HW1.out.cell (by omega)
        have hfw2 : ∀ t, t < n → wr2.frozen? ⟨b, off + t, none⟩ = false := fun t _ => HW1.out.frozen t
        clear hs
        go_big_quiet (first | (go_at_call 56; refine Calls.quiet_of_same (less _ _ _)))
        go_wp2_with fail
        · have hS : (!ltInt (G (F + r)) (G (F + 2 * r + 1))) = true := by assumption
          (try simp only [Exit.inBlock, Exit.then])
          refine bodyPost_ret (results_none rfl _ _ _) rfl ?_
          refine ⟨rfl, ?_⟩
          rw [← HO.out, sift_stop ltInt (c := 2 * r + 1) dk (by omega) HC (by rw [← HG.out, ← HG.out]; simpa [Nat.add_assoc] using hS)]
          exact HW1.out.drewN _
        · have hS : (!ltInt (G (F + r)) (G (F + 2 * r + 1))) = false := by assumption
          have HL : Hid (ltInt dk[F + r]! dk[F + (2 * r + 1)]! = true) := by show _ = _; rw [← HG.out, ← HG.out]; simpa [Nat.add_assoc] using hS
          clear hS
          have HW3 : Hid (SAt w0 b C off dk (wr2.drewN nq)) := HW1.out.drewN nq
          clear hcw2 hfw2
          generalize wr2.drewN nq = wr3 at HW3 ⊢
          have hs := HS.out
          have hcw3 : ∀ t, t < n → wr3.cell? ⟨b, off + t, none⟩ = some (.int .i32 (G t)) := fun t ht => by rw [HG.out]; exact HW3.out.cell (by omega)
          have hfw3 : ∀ t, t < n → wr3.frozen? ⟨b, off + t, none⟩ = false := fun t _ => HW3.out.frozen t
          clear hs
          go_region
          go_wp2
          go_roundw
          case rel =>
            have hs := HS.out
            refine ⟨2 * r + 1, swp dk (F + r) (F + (2 * r + 1)), by go_num, by omega, by show _ = _; rw [size_swp]; exact HS.out, ?_, ?_⟩
            · have := (HW3.out.swap (i := F + r) (j := F + (2 * r + 1)) (by omega) (by omega)).drew
              rw [HG.out, HG.out]
              exact this
            · show _ = _
              rw [← HO.out, sift_go ltInt dk (by omega) HC HL.out]
          case measure => simp [intOf]; omega
end Go.Proofs.Qxb6602790a
