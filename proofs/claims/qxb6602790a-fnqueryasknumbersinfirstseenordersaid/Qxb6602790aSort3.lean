import Derived.Test.Qxb6602790aSort2
namespace Go.Proofs.Qxb6602790a
open Go.RowKit Go.Deep Go.Sort

theorem half (a e : Nat) (h : a ≤ e) : ((e : Int) - (a : Int) - 1).tdiv 2 = (((e - a - 1) / 2 + 1 : Nat) : Int) - 1 := by
  rcases Nat.eq_or_lt_of_le h with rfl | h
  · simp
  · rw [Int.tdiv_eq_ediv_of_nonneg (by omega)]
    omega

set_option maxHeartbeats 8000000 in
set_option maxRecDepth 100000 in
theorem heap (w0 : World) (b C off cap n a e : Nat) (d : Array Int) (w : World) (h : SAt w0 b C off d w) (hn : d.size = n) (hae : a ≤ e) (he : e ≤ n) (hsz : n < 4611686018427387904) :
    Calls Try.prog 51 #[.slice (some ⟨b, off, none⟩) n cap, .int .i64 a, .int .i64 e] w fun x w' => x = .returned (.tuple #[]) ∧ SAt w0 b C off (heapSort ltInt d a e) w' := by
  have H : Hid (SAt w0 b C off d w) := h
  have HN : Hid (d.size = n) := hn
  have HE : Hid (((e - a : Nat) : Int) = (e : Int) - (a : Int)) := by show _ = _; omega
  clear h hn
  go_enter Try.func51, Try.ntmps51
  go_wp2
  go_loopw [9] (fun vi wr => ∃ (k : Nat) (z : Int) (dk : Array Int), vi = .int .i64 z ∧ z < (k : Int) ∧ (k : Int) ≤ z + 1 ∧ k ≤ (e - a - 1) / 2 + 1 ∧ Hid (dk.size = n) ∧ Hid (SAt w0 b C off dk wr) ∧
      Hid (heapBuild ltInt (e - a) a k dk = heapBuild ltInt (e - a) a ((e - a - 1) / 2 + 1) d)) (fun vi _ => (intOf vi + 1).toNat)
  case atStart => exact ⟨(e - a - 1) / 2 + 1, _, d, rfl, by rw [half a e hae]; omega, by rw [half a e hae]; omega, Nat.le_refl _, HN, H, rfl⟩
  case round =>
    obtain ⟨k, z, dk, rfl, hz1, hz2, hk, HS, HW, HO⟩ := hrel
    rcases Nat.eq_zero_or_pos k with hk0 | hkp
    · subst hk0
      have hz3 : z < 0 := by omega
      clear hz1 hz2
      have HB : Hid (dk = heapBuild ltInt (e - a) a ((e - a - 1) / 2 + 1) d) := HO.out
      clear HO
      go_wp2
      go_loopw [10] (fun vi wr => ∃ (k : Nat) (dj : Array Int), vi = .int .i64 ((k : Int) - 1) ∧ k ≤ e - a ∧ Hid (dj.size = n) ∧ Hid (SAt w0 b C off dj wr) ∧
          Hid (heapPop ltInt a k dj = heapPop ltInt a (e - a) dk)) (fun vi _ => (intOf vi + 1).toNat)
      case atStart => exact ⟨e - a, dk, by rw [HE.out], Nat.le_refl _, HS, HW, rfl⟩
      case round =>
        clear HS HW hk hz3
        obtain ⟨k, dj, rfl, hk, HS, HW, HO⟩ := hrel
        rcases Nat.eq_zero_or_pos k with rfl | hkp
        · go_wp2
          go_end0
          refine ⟨rfl, ?_⟩
          have : dj = heapSort ltInt d a e := by rw [heapSort, ← HB.out, ← HO.out]; rfl
          rw [← this]
          exact HW.out
        · obtain ⟨m, rfl⟩ : ∃ m, k = m + 1 := ⟨k - 1, by omega⟩
          clear hkp
          have HO2 : Hid (heapPop ltInt a m (siftDown ltInt m a 0 (swp dj a (a + m))) = heapPop ltInt a (e - a) dk) := HO.out
          clear HO
          obtain ⟨G, hG⟩ : ∃ G : Nat → Int, ∀ t, G t = dj[t]! := ⟨fun t => dj[t]!, fun _ => rfl⟩
          have hs := HS.out
          have hcw : ∀ t, t < n → wr.cell? ⟨b, off + t, none⟩ = some (.int .i32 (G t)) := fun t ht => by rw [hG]; exact HW.out.cell (by omega)
          have hfw : ∀ t, t < n → wr.frozen? ⟨b, off + t, none⟩ = false := fun t _ => HW.out.frozen t
          have HG : Hid (∀ t, G t = dj[t]!) := hG
          clear hG hs
          have HK : Hid (∀ w2, SAt w0 b C off (swp dj a (a + m)) w2 → Calls Try.prog 62 #[.slice (some ⟨b, off, none⟩) n cap, .int .i64 0, .int .i64 m, .int .i64 a] w2 fun x w' => x = .returned (.tuple #[]) ∧ SAt w0 b C off (siftDown ltInt m a 0 (swp dj a (a + m))) w') :=
            fun w2 h2 => sift w0 b C off cap n 0 m a _ w2 h2 (by rw [size_swp]; exact HS.out) (Nat.zero_le _) (by omega) hsz
          rcases Nat.eq_zero_or_pos m with rfl | hm
          · go_wp2_with fail
            go_region
            go_wp2_with fail
            have hs := HS.out
            have h2 : SAt w0 b C off (swp dj a (a + 0)) ((wr.setCell ⟨b, off + a, none⟩ (.int .i32 (G a))).setCell ⟨b, off + a, none⟩ (.int .i32 (G a))).drew := by
              rw [HG.out]; exact (HW.out.swap (i := a) (j := a + 0) (by omega) (by omega)).drew
            refine (HK.out _ h2).mono ?_
            rintro x w1 ⟨rfl, h3⟩
            have H3 : Hid (SAt w0 b C off (siftDown ltInt 0 a 0 (swp dj a (a + 0))) w1) := h3
            clear h2 h3 hcw hfw hs
            go_wp2
            go_roundw
            case rel => exact ⟨0, _, by go_num, by omega, by show _ = _; rw [sift_size ltInt _ _ _ _ _ (Nat.le_refl _), size_swp]; exact HS.out, H3, HO2⟩
            case measure => simp [intOf]
          · go_wp2_with fail
            go_region
            go_wp2_with fail
            have hs := HS.out
            have h2 : SAt w0 b C off (swp dj a (a + m)) ((wr.setCell ⟨b, off + a, none⟩ (.int .i32 (G (a + m)))).setCell ⟨b, off + (a + m), none⟩ (.int .i32 (G a))).drew := by
              rw [HG.out, HG.out]; exact (HW.out.swap (i := a) (j := a + m) (by omega) (by omega)).drew
            refine (HK.out _ h2).mono ?_
            rintro x w1 ⟨rfl, h3⟩
            have H3 : Hid (SAt w0 b C off (siftDown ltInt m a 0 (swp dj a (a + m))) w1) := h3
            clear h2 h3 hcw hfw hs
            go_wp2
            go_roundw
            case rel => exact ⟨m, _, by go_num, by omega, by show _ = _; rw [sift_size ltInt _ _ _ _ _ (Nat.le_refl _), size_swp]; exact HS.out, H3, HO2⟩
            case measure => simp [intOf]
    · obtain ⟨m, rfl⟩ : ∃ m, k = m + 1 := ⟨k - 1, by omega⟩
      obtain rfl : z = (m : Int) := by omega
      clear hkp hz1 hz2
      have HO2 : Hid (heapBuild ltInt (e - a) a m (siftDown ltInt (e - a) a m dk) = heapBuild ltInt (e - a) a ((e - a - 1) / 2 + 1) d) := HO.out
      clear HO
      have HK : Hid (Calls Try.prog 62 #[.slice (some ⟨b, off, none⟩) n cap, .int .i64 m, .int .i64 ((e : Int) - (a : Int)), .int .i64 a] wr fun x w' => x = .returned (.tuple #[]) ∧ SAt w0 b C off (siftDown ltInt (e - a) a m dk) w') := by
        have := sift w0 b C off cap n m (e - a) a dk wr HW.out HS.out (by omega) (by omega) hsz
        rw [HE.out] at this
        exact this
      go_wp2_with fail
      refine HK.out.mono ?_
      rintro x w1 ⟨rfl, h3⟩
      have H3 : Hid (SAt w0 b C off (siftDown ltInt (e - a) a m dk) w1) := h3
      clear h3
      go_wp2
      go_roundw
      case rel => exact ⟨m, _, _, rfl, by omega, by omega, by omega, by show _ = _; rw [sift_size ltInt _ _ _ _ _ (Nat.le_refl _)]; exact HS.out, H3, HO2⟩
      case measure => simp [intOf]
end Go.Proofs.Qxb6602790a
