import Derived.Test.Qxb6602790aSort0
namespace Go.Proofs.Qxb6602790a
open Go.RowKit Go.Deep Go.Sort

section
variable (lt : Int → Int → Bool)
theorem scanS_go (d : Array Int) (e i : Nat) (h : i < e) (hl : (!lt d[i]! d[i - 1]!) = true) : scanSorted lt d e i = scanSorted lt d e (i + 1) := by
  rw [scanSorted, if_pos (by simp only [Bool.not_eq_true'] at hl; simp [h, hl])]
theorem scanS_stop (d : Array Int) (e i : Nat) (h : ¬ i < e ∨ (!lt d[i]! d[i - 1]!) = false) : scanSorted lt d e i = i := by
  rw [scanSorted, if_neg]
  rcases h with h | h
  · simp [h]
  · simp only [Bool.not_eq_false'] at h
    simp [h]
theorem shiftUp_go (e j : Nat) (d : Array Int) (h : j < e) (hl : (!lt d[j]! d[j - 1]!) = false) : shiftUp lt e j d = shiftUp lt e (j + 1) (swp d j (j - 1)) := by
  rw [shiftUp, if_pos h, hl]; rfl
theorem shiftUp_stop (e j : Nat) (d : Array Int) (h : ¬ j < e ∨ (!lt d[j]! d[j - 1]!) = true) : shiftUp lt e j d = d := by
  rw [shiftUp]
  rcases h with h | h
  · rw [if_neg h]
  · by_cases h2 : j < e
    · rw [if_pos h2, h]; rfl
    · rw [if_neg h2]
theorem shiftDown_go (j : Nat) (d : Array Int) (h : 0 < j) (hl : (!lt d[j]! d[j - 1]!) = false) : shiftDown lt j d = shiftDown lt (j - 1) (swp d j (j - 1)) := by
  match j, h with
  | k + 1, _ => rw [shiftDown]; simp only [Nat.add_sub_cancel] at hl ⊢; rw [hl]; rfl
theorem shiftDown_stop (j : Nat) (d : Array Int) (h : j = 0 ∨ (!lt d[j]! d[j - 1]!) = true) : shiftDown lt j d = d := by
  match j with
  | 0 => rfl
  | k + 1 =>
    rcases h with h | h
    · omega
    · rw [shiftDown]; simp only [Nat.add_sub_cancel] at h; rw [h]; rfl
end

set_option maxHeartbeats 16000000 in
set_option maxRecDepth 100000 in
theorem partialW (w0 : World) (b C off cap n a e : Nat) (d : Array Int) (w : World) (h : SAt w0 b C off d w) (hn : d.size = n) (hae : a < e) (he : e ≤ n) (hsz : n < 4611686018427387904) :
    Calls Try.prog 55 #[.slice (some ⟨b, off, none⟩) n cap, .int .i64 a, .int .i64 e] w fun x w' => x = .returned (.bool (partialInsertionSort ltInt d a e).2) ∧ SAt w0 b C off (partialInsertionSort ltInt d a e).1 w' := by
  have HB := hid h
  have HN := hid hn
  clear h hn
  go_enter Try.func55, Try.ntmps55
  go_wp2
  go_loopw [7, 8] (fun vi vj wr => ∃ (i j : Nat) (dk : Array Int), vi = .int .i64 i ∧ vj = .int .i64 j ∧ a < i ∧ i ≤ e ∧ j ≤ 5 ∧ Hid (dk.size = n) ∧ Hid (SAt w0 b C off dk wr) ∧
      Hid (partialIns ltInt a e (5 - j) i dk = partialIns ltInt a e 5 (a + 1) d)) (fun _ vj _ => 5 - (intOf vj).toNat)
  case atStart => exact ⟨a + 1, 0, d, by go_num, by go_num, by omega, by omega, by omega, HN, HB, rfl⟩
  case round =>
    clear HB HN
    obtain ⟨i, j, dk, rfl, rfl, hai, hie, hj5, HS, HW, HO⟩ := hrel
    by_cases hj : j < 5
    · have HO1 : Hid (partialIns ltInt a e (5 - (j + 1) + 1) i dk = partialIns ltInt a e 5 (a + 1) d) := by
        have := HO.out
        rw [show 5 - j = 5 - (j + 1) + 1 by omega] at this
        exact this
      clear HO
      go_wp2
      go_loopw [7] (fun vi wr => ∃ i' : Nat, vi = .int .i64 i' ∧ i ≤ i' ∧ i' ≤ e ∧ Hid (SAt w0 b C off dk wr) ∧ Hid (scanSorted ltInt dk e i' = scanSorted ltInt dk e i)) (fun vi _ => e - (intOf vi).toNat)
      case atStart => exact ⟨i, rfl, Nat.le_refl _, hie, HW, rfl⟩
      case round =>
        clear HW
        obtain ⟨i', rfl, hii, hie', HW, HI⟩ := hrel
        by_cases hlt : i' < e
        · have hs := HS.out
          obtain ⟨G, hG⟩ : ∃ G : Nat → Int, ∀ t, G t = dk[t]! := ⟨fun t => dk[t]!, fun _ => rfl⟩
          have hcw : ∀ t, t < n → wr.cell? ⟨b, off + t, none⟩ = some (.int .i32 (G t)) := fun t ht => by rw [hG]; exact HW.out.cell (by omega)
          have hfw : ∀ t, t < n → wr.frozen? ⟨b, off + t, none⟩ = false := fun t _ => HW.out.frozen t
          have HG := hid hG
          clear hG hs
          cases hl : ltInt (G i') (G (i' - 1)) with
          | false =>
            go_wp2_with fail
            go_big_quiet (first | (go_at_call 56; refine Calls.quiet_of_same (less _ _ _)))
            go_wp2
            go_roundw
            case rel => exact ⟨i' + 1, by go_num, by omega, by omega, HW.out.drewN _, (scanS_go ltInt dk e i' hlt (by rw [← HG.out, ← HG.out, hl]; rfl)).symm.trans HI.out⟩
            case measure => simp [intOf]; omega
          | true =>
            have HI2 : Hid (i' = scanSorted ltInt dk e i) := (scanS_stop ltInt dk e i' (Or.inr (by rw [← HG.out, ← HG.out, hl]; rfl))).symm.trans HI.out
            clear HI
            have tz : ((i' : Int) == (e : Int)) = false := beq_eq_false_iff_ne.2 (by omega)
            by_cases h50 : e - a < 50
            · have h50z : (e : Int) - (a : Int) < 50 := by omega
              go_wp2_with fail
              go_big_quiet (first | (go_at_call 56; refine Calls.quiet_of_same (less _ _ _)))
              go_wp2
              go_ret
              have e2 : partialInsertionSort ltInt d a e = (dk, false) := by
                rw [partialInsertionSort, ← HO1.out, partialIns]
                simp only []
                rw [← HI2.out, if_neg (show ¬ i' = e by omega), if_pos h50]
              rw [e2]
              exact ⟨rfl, HW.out.drewN _⟩
            · have h50z : (50 : Int) ≤ (e : Int) - (a : Int) := by omega
              have HX : Hid (partialIns ltInt a e (5 - (j + 1)) i' (if e - i' ≥ 2 then shiftUp ltInt e (i' + 1) (if i' - a ≥ 2 then shiftDown ltInt (i' - 1) (swp dk i' (i' - 1)) else swp dk i' (i' - 1)) else (if i' - a ≥ 2 then shiftDown ltInt (i' - 1) (swp dk i' (i' - 1)) else swp dk i' (i' - 1))) = partialIns ltInt a e 5 (a + 1) d) := by
                have q := HO1.out
                rw [partialIns] at q
                simp only [] at q
                rw [← HI2.out, if_neg (show ¬ i' = e by omega), if_neg h50] at q
                exact q
              clear HO1 HI2
              obtain ⟨d1, hd1⟩ : ∃ d1, d1 = swp dk i' (i' - 1) := ⟨_, rfl⟩
              rw [← hd1] at HX
              have HD1 := hid hd1
              clear hd1
              by_cases hdn : 2 ≤ i' - a
              · have HY : Hid (∀ dA, dA = shiftDown ltInt (i' - 1) d1 → partialIns ltInt a e (5 - (j + 1)) i' (if e - i' ≥ 2 then shiftUp ltInt e (i' + 1) dA else dA) = partialIns ltInt a e 5 (a + 1) d) := fun dA hA => by
                  subst hA
                  have := HX.out
                  rw [if_pos (show i' - a ≥ 2 from hdn)] at this
                  exact this
                clear HX
                have hdnz : (2 : Int) ≤ (i' : Int) - (a : Int) := by omega
                go_wp2_with fail
                go_big_quiet (first | (go_at_call 56; refine Calls.quiet_of_same (less _ _ _)))
                go_wp2_with fail
                clear hl
                have HW2 : Hid (SAt w0 b C off dk (wr.drewN nq)) := HW.out.drewN nq
                clear HW hcw hfw
                generalize wr.drewN nq = wx at HW2 ⊢
                clear nq
                have HW : Hid (SAt w0 b C off dk wx) := HW2
                clear HW2
                clear HG
                have hs := HS.out
                obtain ⟨G, hG⟩ : ∃ G : Nat → Int, ∀ t, G t = dk[t]! := ⟨fun t => dk[t]!, fun _ => rfl⟩
                have hcw : ∀ t, t < n → wx.cell? ⟨b, off + t, none⟩ = some (.int .i32 (G t)) := fun t ht => by rw [hG]; exact HW.out.cell (by omega)
                have hfw : ∀ t, t < n → wx.frozen? ⟨b, off + t, none⟩ = false := fun t _ => HW.out.frozen t
                have HG := hid hG
                clear hG hs
                go_region
                all_goals go_wp2_with fail
                have HW3 : Hid (SAt w0 b C off d1 ((wx.setCell ⟨b, off + i', none⟩ (.int .i32 (G (i' - 1)))).setCell ⟨b, off + (i' - 1), none⟩ (.int .i32 (G i'))).drew) := by
                  have hs := HS.out
                  rw [HG.out, HG.out, HD1.out]; exact (HW.out.swap (i := i') (j := i' - 1) (by omega) (by omega)).drew
                have HS2 : Hid (d1.size = n) := by show _ = _; rw [HD1.out, size_swp]; exact HS.out
                clear hcw hfw HW HG HD1
                generalize ((wx.setCell ⟨b, off + i', none⟩ (.int .i32 (G (i' - 1)))).setCell ⟨b, off + (i' - 1), none⟩ (.int .i32 (G i'))).drew = wy at HW3 ⊢
                have HW : Hid (SAt w0 b C off d1 wy) := HW3
                clear HW3
                (try go_wp2)
                go_loopw [9] (fun v wr => ∃ (k : Nat) (dd : Array Int), v = .int .i64 k ∧ k ≤ i' - 1 ∧ Hid (dd.size = n) ∧ Hid (SAt w0 b C off dd wr) ∧ Hid (shiftDown ltInt k dd = shiftDown ltInt (i' - 1) d1)) (fun v _ => (intOf v).toNat)
                case atStart => exact ⟨i' - 1, d1, by go_num, Nat.le_refl _, HS2, HW, rfl⟩
                case round =>
                  clear HW HS2
                  obtain ⟨k, dd, rfl, hk1, HS2, HW, HK⟩ := hrel
                  by_cases hk : 1 ≤ k
                  · have hs := HS2.out
                    obtain ⟨G, hG⟩ : ∃ G : Nat → Int, ∀ t, G t = dd[t]! := ⟨fun t => dd[t]!, fun _ => rfl⟩
                    have hcw : ∀ t, t < n → wr.cell? ⟨b, off + t, none⟩ = some (.int .i32 (G t)) := fun t ht => by rw [hG]; exact HW.out.cell (by omega)
                    have hfw : ∀ t, t < n → wr.frozen? ⟨b, off + t, none⟩ = false := fun t _ => HW.out.frozen t
                    have HG := hid hG
                    clear hG hs
                    cases hl2 : ltInt (G k) (G (k - 1)) with
                    | false =>
                      have HO2 : Hid (partialIns ltInt a e (5 - (j + 1)) i' (if e - i' ≥ 2 then shiftUp ltInt e (i' + 1) dd else dd) = partialIns ltInt a e 5 (a + 1) d) :=
                        HY.out dd (by rw [← HK.out, shiftDown_stop ltInt k dd (Or.inr (by rw [← HG.out, ← HG.out, hl2]; rfl))])
                      clear HY HK HG
                      by_cases hup : 2 ≤ e - i'
                      · have HU : Hid (partialIns ltInt a e (5 - (j + 1)) i' (shiftUp ltInt e (i' + 1) dd) = partialIns ltInt a e 5 (a + 1) d) := by have := HO2.out; rw [if_pos hup] at this; exact this
                        have hupz : (2 : Int) ≤ (e : Int) - (i' : Int) := by omega
                        clear HO2
                        go_wp2_with fail
                        go_big_quiet (first | (go_at_call 56; refine Calls.quiet_of_same (less _ _ _)))
                        go_wp2_with fail
                        clear hl2
                        have HW2 : Hid (SAt w0 b C off dd (wr.drewN nq)) := HW.out.drewN nq
                        clear HW hcw hfw
                        generalize wr.drewN nq = wz at HW2 ⊢
                        clear nq
                        have HW : Hid (SAt w0 b C off dd wz) := HW2
                        clear HW2
                        (try go_wp2)
                        go_loopw [10] (fun v wr => ∃ (k : Nat) (du : Array Int), v = .int .i64 k ∧ i' < k ∧ k ≤ e ∧ Hid (du.size = n) ∧ Hid (SAt w0 b C off du wr) ∧ Hid (shiftUp ltInt e k du = shiftUp ltInt e (i' + 1) dd)) (fun v _ => e - (intOf v).toNat)
                        case atStart => exact ⟨i' + 1, dd, by go_num, by omega, by omega, HS2, HW, rfl⟩
                        case round =>
                          clear HW HS2
                          obtain ⟨k, du, rfl, hk1, hk2, HS2, HW, HK⟩ := hrel
                          by_cases hk : k < e
                          · skip
                            have hs := HS2.out
                            obtain ⟨G, hG⟩ : ∃ G : Nat → Int, ∀ t, G t = du[t]! := ⟨fun t => du[t]!, fun _ => rfl⟩
                            have hcw : ∀ t, t < n → wr.cell? ⟨b, off + t, none⟩ = some (.int .i32 (G t)) := fun t ht => by rw [hG]; exact HW.out.cell (by omega)
                            have hfw : ∀ t, t < n → wr.frozen? ⟨b, off + t, none⟩ = false := fun t _ => HW.out.frozen t
                            have HG := hid hG
                            clear hG hs
                            go_wp2_with fail
                            go_big_quiet (first | (go_at_call 56; refine Calls.quiet_of_same (less _ _ _)))
                            go_wp2_with fail
                            · have ht : (!ltInt (G k) (G (k - 1))) = true := by assumption
                              have HE : Hid (partialIns ltInt a e (5 - (j + 1)) i' du = partialIns ltInt a e 5 (a + 1) d) := by
                                show _ = _
                                rw [← HU.out, ← HK.out, shiftUp_stop ltInt e k du (Or.inr (by rw [← HG.out, ← HG.out]; exact ht))]
                              clear ht
                              have HW2 : Hid (SAt w0 b C off du (wr.drewN nq)) := HW.out.drewN nq
                              clear HW hcw hfw
                              generalize wr.drewN nq = wu at HW2 ⊢
                              clear nq
                              have HW : Hid (SAt w0 b C off du wu) := HW2
                              clear HW2
                              (try go_wp2)
                              go_roundw
                              case rel => exact ⟨i', j + 1, du, by go_num, by go_num, by omega, by omega, by omega, HS2, HW, HE⟩
                              case measure => simp [intOf]; omega
                            · have ht : (!ltInt (G k) (G (k - 1))) = false := by assumption
                              have HL : Hid ((!ltInt du[k]! du[k - 1]!) = false) := by show _ = _; rw [← HG.out, ← HG.out]; exact ht
                              clear ht
                              have HW2 : Hid (SAt w0 b C off du (wr.drewN nq)) := HW.out.drewN nq
                              clear HW hcw hfw
                              generalize wr.drewN nq = wu at HW2 ⊢
                              clear nq
                              have HW : Hid (SAt w0 b C off du wu) := HW2
                              clear HW2
                              clear HG
                              have hs := HS2.out
                              obtain ⟨G, hG⟩ : ∃ G : Nat → Int, ∀ t, G t = du[t]! := ⟨fun t => du[t]!, fun _ => rfl⟩
                              have hcw : ∀ t, t < n → wu.cell? ⟨b, off + t, none⟩ = some (.int .i32 (G t)) := fun t ht => by rw [hG]; exact HW.out.cell (by omega)
                              have hfw : ∀ t, t < n → wu.frozen? ⟨b, off + t, none⟩ = false := fun t _ => HW.out.frozen t
                              have HG := hid hG
                              clear hG hs
                              go_region
                              all_goals go_wp2
                              go_roundw
                              case rel =>
                                have hs := HS2.out
                                refine ⟨k + 1, swp du k (k - 1), by go_num, by omega, by omega, by show _ = _; rw [size_swp]; exact HS2.out, ?_, ?_⟩
                                · have := (HW.out.swap (i := k) (j := k - 1) (by omega) (by omega)).drew
                                  rw [HG.out, HG.out]
                                  exact this
                                · show _ = _
                                  rw [← HK.out, shiftUp_go ltInt e k du hk HL.out]
                              case measure => simp [intOf]; omega
                          · have HE : Hid (partialIns ltInt a e (5 - (j + 1)) i' du = partialIns ltInt a e 5 (a + 1) d) := by
                              show _ = _
                              rw [← HU.out, ← HK.out, shiftUp_stop ltInt e k du (Or.inl hk)]
                            (try go_wp2)
                            go_roundw
                            case rel => exact ⟨i', j + 1, du, by go_num, by go_num, by omega, by omega, by omega, HS2, HW, HE⟩
                            case measure => simp [intOf]; omega
                      · have HE : Hid (partialIns ltInt a e (5 - (j + 1)) i' dd = partialIns ltInt a e 5 (a + 1) d) := by have := HO2.out; rw [if_neg hup] at this; exact this
                        have hupz : (e : Int) - (i' : Int) < 2 := by omega
                        clear HO2
                        go_wp2_with fail
                        go_big_quiet (first | (go_at_call 56; refine Calls.quiet_of_same (less _ _ _)))
                        go_wp2_with fail
                        clear hl2
                        have HW2 : Hid (SAt w0 b C off dd (wr.drewN nq)) := HW.out.drewN nq
                        clear HW hcw hfw
                        generalize wr.drewN nq = wz at HW2 ⊢
                        clear nq
                        have HW : Hid (SAt w0 b C off dd wz) := HW2
                        clear HW2
                        (try go_wp2)
                        go_roundw
                        case rel => exact ⟨i', j + 1, dd, by go_num, by go_num, by omega, by omega, by omega, HS2, HW, HE⟩
                        case measure => simp [intOf]; omega
                    | true =>
                      have HL : Hid ((!ltInt dd[k]! dd[k - 1]!) = false) := by show _ = _; rw [← HG.out, ← HG.out, hl2]; rfl
                      go_wp2_with fail
                      go_big_quiet (first | (go_at_call 56; refine Calls.quiet_of_same (less _ _ _)))
                      go_wp2_with fail
                      clear hl2
                      have HW2 : Hid (SAt w0 b C off dd (wr.drewN nq)) := HW.out.drewN nq
                      clear HW hcw hfw
                      generalize wr.drewN nq = wz at HW2 ⊢
                      clear nq
                      have HW : Hid (SAt w0 b C off dd wz) := HW2
                      clear HW2
                      clear HG
                      have hs := HS2.out
                      obtain ⟨G, hG⟩ : ∃ G : Nat → Int, ∀ t, G t = dd[t]! := ⟨fun t => dd[t]!, fun _ => rfl⟩
                      have hcw : ∀ t, t < n → wz.cell? ⟨b, off + t, none⟩ = some (.int .i32 (G t)) := fun t ht => by rw [hG]; exact HW.out.cell (by omega)
                      have hfw : ∀ t, t < n → wz.frozen? ⟨b, off + t, none⟩ = false := fun t _ => HW.out.frozen t
                      have HG := hid hG
                      clear hG hs
                      go_region
                      all_goals go_wp2
                      go_roundw
                      case rel =>
                        have hs := HS2.out
                        refine ⟨k - 1, swp dd k (k - 1), by go_num, by omega, by show _ = _; rw [size_swp]; exact HS2.out, ?_, ?_⟩
                        · have := (HW.out.swap (i := k) (j := k - 1) (by omega) (by omega)).drew
                          rw [HG.out, HG.out]
                          exact this
                        · show _ = _
                          rw [← HK.out, shiftDown_go ltInt k dd (by omega) HL.out]
                      case measure => simp [intOf]; omega
                  · have HO2 : Hid (partialIns ltInt a e (5 - (j + 1)) i' (if e - i' ≥ 2 then shiftUp ltInt e (i' + 1) dd else dd) = partialIns ltInt a e 5 (a + 1) d) :=
                      HY.out dd (by rw [← HK.out, shiftDown_stop ltInt k dd (Or.inl (by omega))])
                    clear HY HK
                    by_cases hup : 2 ≤ e - i'
                    · have HU : Hid (partialIns ltInt a e (5 - (j + 1)) i' (shiftUp ltInt e (i' + 1) dd) = partialIns ltInt a e 5 (a + 1) d) := by have := HO2.out; rw [if_pos hup] at this; exact this
                      have hupz : (2 : Int) ≤ (e : Int) - (i' : Int) := by omega
                      clear HO2
                      go_wp2_with fail
                      (try go_wp2)
                      go_loopw [10] (fun v wr => ∃ (k : Nat) (du : Array Int), v = .int .i64 k ∧ i' < k ∧ k ≤ e ∧ Hid (du.size = n) ∧ Hid (SAt w0 b C off du wr) ∧ Hid (shiftUp ltInt e k du = shiftUp ltInt e (i' + 1) dd)) (fun v _ => e - (intOf v).toNat)
                      case atStart => exact ⟨i' + 1, dd, by go_num, by omega, by omega, HS2, HW, rfl⟩
                      case round =>
                        clear HW HS2
                        obtain ⟨k, du, rfl, hk1, hk2, HS2, HW, HK⟩ := hrel
                        by_cases hk : k < e
                        · skip
                          have hs := HS2.out
                          obtain ⟨G, hG⟩ : ∃ G : Nat → Int, ∀ t, G t = du[t]! := ⟨fun t => du[t]!, fun _ => rfl⟩
                          have hcw : ∀ t, t < n → wr.cell? ⟨b, off + t, none⟩ = some (.int .i32 (G t)) := fun t ht => by rw [hG]; exact HW.out.cell (by omega)
                          have hfw : ∀ t, t < n → wr.frozen? ⟨b, off + t, none⟩ = false := fun t _ => HW.out.frozen t
                          have HG := hid hG
                          clear hG hs
                          go_wp2_with fail
                          go_big_quiet (first | (go_at_call 56; refine Calls.quiet_of_same (less _ _ _)))
                          go_wp2_with fail
                          · have ht : (!ltInt (G k) (G (k - 1))) = true := by assumption
                            have HE : Hid (partialIns ltInt a e (5 - (j + 1)) i' du = partialIns ltInt a e 5 (a + 1) d) := by
                              show _ = _
                              rw [← HU.out, ← HK.out, shiftUp_stop ltInt e k du (Or.inr (by rw [← HG.out, ← HG.out]; exact ht))]
                            clear ht
                            have HW2 : Hid (SAt w0 b C off du (wr.drewN nq)) := HW.out.drewN nq
                            clear HW hcw hfw
                            generalize wr.drewN nq = wu at HW2 ⊢
                            clear nq
                            have HW : Hid (SAt w0 b C off du wu) := HW2
                            clear HW2
                            (try go_wp2)
                            go_roundw
                            case rel => exact ⟨i', j + 1, du, by go_num, by go_num, by omega, by omega, by omega, HS2, HW, HE⟩
                            case measure => simp [intOf]; omega
                          · have ht : (!ltInt (G k) (G (k - 1))) = false := by assumption
                            have HL : Hid ((!ltInt du[k]! du[k - 1]!) = false) := by show _ = _; rw [← HG.out, ← HG.out]; exact ht
                            clear ht
                            have HW2 : Hid (SAt w0 b C off du (wr.drewN nq)) := HW.out.drewN nq
                            clear HW hcw hfw
                            generalize wr.drewN nq = wu at HW2 ⊢
                            clear nq
                            have HW : Hid (SAt w0 b C off du wu) := HW2
                            clear HW2
                            clear HG
                            have hs := HS2.out
                            obtain ⟨G, hG⟩ : ∃ G : Nat → Int, ∀ t, G t = du[t]! := ⟨fun t => du[t]!, fun _ => rfl⟩
                            have hcw : ∀ t, t < n → wu.cell? ⟨b, off + t, none⟩ = some (.int .i32 (G t)) := fun t ht => by rw [hG]; exact HW.out.cell (by omega)
                            have hfw : ∀ t, t < n → wu.frozen? ⟨b, off + t, none⟩ = false := fun t _ => HW.out.frozen t
                            have HG := hid hG
                            clear hG hs
                            go_region
                            all_goals go_wp2
                            go_roundw
                            case rel =>
                              have hs := HS2.out
                              refine ⟨k + 1, swp du k (k - 1), by go_num, by omega, by omega, by show _ = _; rw [size_swp]; exact HS2.out, ?_, ?_⟩
                              · have := (HW.out.swap (i := k) (j := k - 1) (by omega) (by omega)).drew
                                rw [HG.out, HG.out]
                                exact this
                              · show _ = _
                                rw [← HK.out, shiftUp_go ltInt e k du hk HL.out]
                            case measure => simp [intOf]; omega
                        · have HE : Hid (partialIns ltInt a e (5 - (j + 1)) i' du = partialIns ltInt a e 5 (a + 1) d) := by
                            show _ = _
                            rw [← HU.out, ← HK.out, shiftUp_stop ltInt e k du (Or.inl hk)]
                          (try go_wp2)
                          go_roundw
                          case rel => exact ⟨i', j + 1, du, by go_num, by go_num, by omega, by omega, by omega, HS2, HW, HE⟩
                          case measure => simp [intOf]; omega
                    · have HE : Hid (partialIns ltInt a e (5 - (j + 1)) i' dd = partialIns ltInt a e 5 (a + 1) d) := by have := HO2.out; rw [if_neg hup] at this; exact this
                      have hupz : (e : Int) - (i' : Int) < 2 := by omega
                      clear HO2
                      go_wp2_with fail
                      (try go_wp2)
                      go_roundw
                      case rel => exact ⟨i', j + 1, dd, by go_num, by go_num, by omega, by omega, by omega, HS2, HW, HE⟩
                      case measure => simp [intOf]; omega
              · have hdnz : (i' : Int) - (a : Int) < 2 := by omega
                have HO2 : Hid (partialIns ltInt a e (5 - (j + 1)) i' (if e - i' ≥ 2 then shiftUp ltInt e (i' + 1) d1 else d1) = partialIns ltInt a e 5 (a + 1) d) := by
                  have := HX.out
                  rw [if_neg (show ¬ i' - a ≥ 2 from hdn)] at this
                  exact this
                clear HX
                by_cases hup : 2 ≤ e - i'
                · have HU : Hid (partialIns ltInt a e (5 - (j + 1)) i' (shiftUp ltInt e (i' + 1) d1) = partialIns ltInt a e 5 (a + 1) d) := by have := HO2.out; rw [if_pos hup] at this; exact this
                  have hupz : (2 : Int) ≤ (e : Int) - (i' : Int) := by omega
                  clear HO2
                  go_wp2_with fail
                  go_big_quiet (first | (go_at_call 56; refine Calls.quiet_of_same (less _ _ _)))
                  go_wp2_with fail
                  clear hl
                  have HW2 : Hid (SAt w0 b C off dk (wr.drewN nq)) := HW.out.drewN nq
                  clear HW hcw hfw
                  generalize wr.drewN nq = wx at HW2 ⊢
                  clear nq
                  have HW : Hid (SAt w0 b C off dk wx) := HW2
                  clear HW2
                  clear HG
                  have hs := HS.out
                  obtain ⟨G, hG⟩ : ∃ G : Nat → Int, ∀ t, G t = dk[t]! := ⟨fun t => dk[t]!, fun _ => rfl⟩
                  have hcw : ∀ t, t < n → wx.cell? ⟨b, off + t, none⟩ = some (.int .i32 (G t)) := fun t ht => by rw [hG]; exact HW.out.cell (by omega)
                  have hfw : ∀ t, t < n → wx.frozen? ⟨b, off + t, none⟩ = false := fun t _ => HW.out.frozen t
                  have HG := hid hG
                  clear hG hs
                  go_region
                  all_goals go_wp2_with fail
                  have HW3 : Hid (SAt w0 b C off d1 ((wx.setCell ⟨b, off + i', none⟩ (.int .i32 (G (i' - 1)))).setCell ⟨b, off + (i' - 1), none⟩ (.int .i32 (G i'))).drew) := by
                    have hs := HS.out
                    rw [HG.out, HG.out, HD1.out]; exact (HW.out.swap (i := i') (j := i' - 1) (by omega) (by omega)).drew
                  have HS2 : Hid (d1.size = n) := by show _ = _; rw [HD1.out, size_swp]; exact HS.out
                  clear hcw hfw HW HG HD1
                  generalize ((wx.setCell ⟨b, off + i', none⟩ (.int .i32 (G (i' - 1)))).setCell ⟨b, off + (i' - 1), none⟩ (.int .i32 (G i'))).drew = wy at HW3 ⊢
                  have HW : Hid (SAt w0 b C off d1 wy) := HW3
                  clear HW3
                  (try go_wp2)
                  go_loopw [10] (fun v wr => ∃ (k : Nat) (du : Array Int), v = .int .i64 k ∧ i' < k ∧ k ≤ e ∧ Hid (du.size = n) ∧ Hid (SAt w0 b C off du wr) ∧ Hid (shiftUp ltInt e k du = shiftUp ltInt e (i' + 1) d1)) (fun v _ => e - (intOf v).toNat)
                  case atStart => exact ⟨i' + 1, d1, by go_num, by omega, by omega, HS2, HW, rfl⟩
                  case round =>
                    clear HW HS2
                    obtain ⟨k, du, rfl, hk1, hk2, HS2, HW, HK⟩ := hrel
                    by_cases hk : k < e
                    · skip
                      have hs := HS2.out
                      obtain ⟨G, hG⟩ : ∃ G : Nat → Int, ∀ t, G t = du[t]! := ⟨fun t => du[t]!, fun _ => rfl⟩
                      have hcw : ∀ t, t < n → wr.cell? ⟨b, off + t, none⟩ = some (.int .i32 (G t)) := fun t ht => by rw [hG]; exact HW.out.cell (by omega)
                      have hfw : ∀ t, t < n → wr.frozen? ⟨b, off + t, none⟩ = false := fun t _ => HW.out.frozen t
                      have HG := hid hG
                      clear hG hs
                      go_wp2_with fail
                      go_big_quiet (first | (go_at_call 56; refine Calls.quiet_of_same (less _ _ _)))
                      go_wp2_with fail
                      · have ht : (!ltInt (G k) (G (k - 1))) = true := by assumption
                        have HE : Hid (partialIns ltInt a e (5 - (j + 1)) i' du = partialIns ltInt a e 5 (a + 1) d) := by
                          show _ = _
                          rw [← HU.out, ← HK.out, shiftUp_stop ltInt e k du (Or.inr (by rw [← HG.out, ← HG.out]; exact ht))]
                        clear ht
                        have HW2 : Hid (SAt w0 b C off du (wr.drewN nq)) := HW.out.drewN nq
                        clear HW hcw hfw
                        generalize wr.drewN nq = wu at HW2 ⊢
                        clear nq
                        have HW : Hid (SAt w0 b C off du wu) := HW2
                        clear HW2
                        (try go_wp2)
                        go_roundw
                        case rel => exact ⟨i', j + 1, du, by go_num, by go_num, by omega, by omega, by omega, HS2, HW, HE⟩
                        case measure => simp [intOf]; omega
                      · have ht : (!ltInt (G k) (G (k - 1))) = false := by assumption
                        have HL : Hid ((!ltInt du[k]! du[k - 1]!) = false) := by show _ = _; rw [← HG.out, ← HG.out]; exact ht
                        clear ht
                        have HW2 : Hid (SAt w0 b C off du (wr.drewN nq)) := HW.out.drewN nq
                        clear HW hcw hfw
                        generalize wr.drewN nq = wu at HW2 ⊢
                        clear nq
                        have HW : Hid (SAt w0 b C off du wu) := HW2
                        clear HW2
                        clear HG
                        have hs := HS2.out
                        obtain ⟨G, hG⟩ : ∃ G : Nat → Int, ∀ t, G t = du[t]! := ⟨fun t => du[t]!, fun _ => rfl⟩
                        have hcw : ∀ t, t < n → wu.cell? ⟨b, off + t, none⟩ = some (.int .i32 (G t)) := fun t ht => by rw [hG]; exact HW.out.cell (by omega)
                        have hfw : ∀ t, t < n → wu.frozen? ⟨b, off + t, none⟩ = false := fun t _ => HW.out.frozen t
                        have HG := hid hG
                        clear hG hs
                        go_region
                        all_goals go_wp2
                        go_roundw
                        case rel =>
                          have hs := HS2.out
                          refine ⟨k + 1, swp du k (k - 1), by go_num, by omega, by omega, by show _ = _; rw [size_swp]; exact HS2.out, ?_, ?_⟩
                          · have := (HW.out.swap (i := k) (j := k - 1) (by omega) (by omega)).drew
                            rw [HG.out, HG.out]
                            exact this
                          · show _ = _
                            rw [← HK.out, shiftUp_go ltInt e k du hk HL.out]
                        case measure => simp [intOf]; omega
                    · have HE : Hid (partialIns ltInt a e (5 - (j + 1)) i' du = partialIns ltInt a e 5 (a + 1) d) := by
                        show _ = _
                        rw [← HU.out, ← HK.out, shiftUp_stop ltInt e k du (Or.inl hk)]
                      (try go_wp2)
                      go_roundw
                      case rel => exact ⟨i', j + 1, du, by go_num, by go_num, by omega, by omega, by omega, HS2, HW, HE⟩
                      case measure => simp [intOf]; omega
                · exfalso; omega
        · have HI2 : Hid (e = scanSorted ltInt dk e i) := by
            have := (scanS_stop ltInt dk e i' (Or.inl hlt)).symm.trans HI.out
            show _ = _
            omega
          obtain rfl : i' = e := by omega
          have hs := HS.out
          obtain ⟨G, hG⟩ : ∃ G : Nat → Int, ∀ t, G t = dk[t]! := ⟨fun t => dk[t]!, fun _ => rfl⟩
          have hcw : ∀ t, t < n → wr.cell? ⟨b, off + t, none⟩ = some (.int .i32 (G t)) := fun t ht => by rw [hG]; exact HW.out.cell (by omega)
          have hfw : ∀ t, t < n → wr.frozen? ⟨b, off + t, none⟩ = false := fun t _ => HW.out.frozen t
          have HG := hid hG
          clear hG hs
          go_wp2_with fail
          go_big_quiet (first | (go_at_call 56; refine Calls.quiet_of_same (less _ _ _)))
          go_wp2
          go_ret
          have e2 : partialInsertionSort ltInt d a i' = (dk, true) := by
            rw [partialInsertionSort, ← HO1.out, partialIns]
            simp only []
            rw [← HI2.out, if_pos rfl]
          rw [e2]
          exact ⟨rfl, HW.out.drewN _⟩
    · go_wp2
      go_ret
      have e2 : partialInsertionSort ltInt d a e = (dk, false) := by
        rw [partialInsertionSort, ← HO.out, show 5 - j = 0 by omega]
        rfl
      rw [e2]
      exact ⟨rfl, HW.out⟩
end Go.Proofs.Qxb6602790a
