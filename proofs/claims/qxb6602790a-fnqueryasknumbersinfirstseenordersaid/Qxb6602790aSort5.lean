import Derived.Test.Qxb6602790aSort4
namespace Go.Proofs.Qxb6602790a
open Go.RowKit Go.Deep Go.Sort

set_option maxHeartbeats 16000000 in
set_option maxRecDepth 100000 in
theorem part (w0 : World) (b C off cap n a e pivot : Nat) (d : Array Int) (w : World) (h : SAt w0 b C off d w) (hn : d.size = n) (hap : a ≤ pivot) (hpe : pivot < e) (he : e ≤ n) (hsz : n < 4611686018427387904) :
    Calls Try.prog 58 #[.slice (some ⟨b, off, none⟩) n cap, .int .i64 a, .int .i64 e, .int .i64 pivot] w fun x w' => x = .returned (.tuple #[.int .i64 (partition ltInt d a e pivot).1, .bool (partition ltInt d a e pivot).2.1]) ∧ SAt w0 b C off (partition ltInt d a e pivot).2.2 w' := by
  obtain ⟨j0, rfl⟩ : ∃ j0, e = j0 + 1 := ⟨e - 1, by omega⟩
  obtain ⟨G0, hG0⟩ : ∃ G0 : Nat → Int, ∀ t, G0 t = d[t]! := ⟨fun t => d[t]!, fun _ => rfl⟩
  have ca : w.cell? ⟨b, off + a, none⟩ = some (.int .i32 (G0 a)) := by rw [hG0]; exact h.cell (by omega)
  have cp : w.cell? ⟨b, off + pivot, none⟩ = some (.int .i32 (G0 pivot)) := by rw [hG0]; exact h.cell (by omega)
  have fa := h.frozen a
  have fp := h.frozen pivot
  have HB : Hid (SAt w0 b C off (swp d a pivot) ((w.setCell ⟨b, off + a, none⟩ (.int .i32 (G0 pivot))).setCell ⟨b, off + pivot, none⟩ (.int .i32 (G0 a))).drew) := by
    rw [hG0, hG0]; exact (h.swap (by omega) (by omega)).drew
  have HN : Hid ((swp d a pivot).size = n) := by show _ = _; rw [size_swp]; exact hn
  clear h hn hG0
  obtain ⟨v', hy'⟩ := cell?_setCell_some (w := w) (p := ⟨b, off + a, none⟩) (x := .int .i32 (G0 pivot)) (q := ⟨b, off + pivot, none⟩) cp
  go_enter Try.func58, Try.ntmps58
  go_wp2
  go_region
  go_wp2
  generalize ((w.setCell ⟨b, off + a, none⟩ (.int .i32 (G0 pivot))).setCell ⟨b, off + pivot, none⟩ (.int .i32 (G0 a))).drew = w1 at HB ⊢
  clear ca cp fa fp hy' v'
  obtain ⟨dk, hD⟩ : ∃ dk, dk = swp d a pivot := ⟨_, rfl⟩
  rw [← hD] at HB HN
  have HD : Hid (dk = swp d a pivot) := hD
  have HS : Hid (dk.size = n) := HN
  have HW : Hid (SAt w0 b C off dk w1) := HB
  clear hD HB HN
  obtain ⟨G, hG⟩ : ∃ G : Nat → Int, ∀ t, G t = dk[t]! := ⟨fun t => dk[t]!, fun _ => rfl⟩
  have HG : Hid (∀ t, G t = dk[t]!) := hG
  clear hG
  go_loopw [10] (fun vi wr => ∃ i' : Nat, vi = .int .i64 i' ∧ (a + 1) ≤ i' ∧ i' ≤ j0 + 1 ∧ Hid (SAt w0 b C off dk wr) ∧ Hid (scanUp (fun x => ltInt x dk[a]!) dk j0 i' = scanUp (fun x => ltInt x dk[a]!) dk j0 (a + 1))) (fun vi _ => j0 + 1 - (intOf vi).toNat)
  case atStart => exact ⟨(a + 1), by go_num, Nat.le_refl _, by omega, HW, rfl⟩
  case round =>
    clear HW
    obtain ⟨i', rfl, hii, hij', HW, HU⟩ := hrel
    have hs := HS.out
    have hcw : ∀ t, t < n → wr.cell? ⟨b, off + t, none⟩ = some (.int .i32 (G t)) := fun t ht => by rw [HG.out]; exact HW.out.cell (by omega)
    have hfw : ∀ t, t < n → wr.frozen? ⟨b, off + t, none⟩ = false := fun t _ => HW.out.frozen t
    clear hs
    by_cases hle : i' ≤ j0
    · go_wp2_with fail
      go_big_quiet (first | (go_at_call 56; refine Calls.quiet_of_same (less _ _ _)))
      go_wp2
      · have ht : ltInt (G i') (G a) = true := by assumption
        go_roundw
        case rel => exact ⟨i' + 1, by go_num, by omega, by omega, HW.out.drewN _, (scanUp_go' (fun x => ltInt x dk[a]!) dk j0 i' hle (by show _ = _; rw [← HG.out a, ← HG.out i']; exact ht)).symm.trans HU.out⟩
        case measure => simp [intOf]; omega
      · have ht : ltInt (G i') (G a) = false := by assumption
        have HU2 : Hid (i' = scanUp (fun x => ltInt x dk[a]!) dk j0 (a + 1)) := (scanUp_end' (fun x => ltInt x dk[a]!) dk j0 i' (Or.inr (by show _ = _; rw [← HG.out a, ← HG.out i']; exact ht))).symm.trans HU.out
        have HW2 : Hid (SAt w0 b C off dk (wr.drewN nq)) := HW.out.drewN nq
        (try clear ht)
        clear HU HW hcw hfw
        generalize wr.drewN nq = wx at HW2 ⊢
        clear nq
        have HW : Hid (SAt w0 b C off dk wx) := HW2
        clear HW2
        go_loopw [11] (fun vj wr => ∃ j' : Nat, vj = .int .i64 j' ∧ j' ≤ j0 ∧ i' ≤ j' + 1 ∧ Hid (SAt w0 b C off dk wr) ∧ Hid (scanDown (fun x => !ltInt x dk[a]!) dk i' j' = scanDown (fun x => !ltInt x dk[a]!) dk i' j0)) (fun vj _ => (intOf vj).toNat)
        case atStart => exact ⟨j0, by go_num, Nat.le_refl _, by omega, HW, rfl⟩
        case round =>
          clear HW
          obtain ⟨j', rfl, hjj, hij2, HW, HV⟩ := hrel
          have hs := HS.out
          have hcw : ∀ t, t < n → wr.cell? ⟨b, off + t, none⟩ = some (.int .i32 (G t)) := fun t ht => by rw [HG.out]; exact HW.out.cell (by omega)
          have hfw : ∀ t, t < n → wr.frozen? ⟨b, off + t, none⟩ = false := fun t _ => HW.out.frozen t
          clear hs
          by_cases hle2 : i' ≤ j'
          · go_wp2_with fail
            go_big_quiet (first | (go_at_call 56; refine Calls.quiet_of_same (less _ _ _)))
            go_wp2_with fail
            · have ht : (!ltInt (G j') (G a)) = true := by assumption
              go_wp2
              go_roundw
              case rel => exact ⟨j' - 1, by go_num, by omega, by omega, HW.out.drewN _, (scanDown_go' (fun x => !ltInt x dk[a]!) dk i' j' hle2 (by omega) (by show _ = _; rw [← HG.out a, ← HG.out j']; exact ht)).symm.trans HV.out⟩
              case measure => simp [intOf]; omega
            · have ht : (!ltInt (G j') (G a)) = false := by assumption
              have HV2 : Hid (j' = scanDown (fun x => !ltInt x dk[a]!) dk i' j0) := (scanDown_end' (fun x => !ltInt x dk[a]!) dk i' j' (Or.inr (by show _ = _; rw [← HG.out a, ← HG.out j']; exact ht))).symm.trans HV.out
              have HW2 : Hid (SAt w0 b C off dk (wr.drewN nq)) := HW.out.drewN nq
              (try clear ht)
              clear HV HW hcw hfw
              generalize wr.drewN nq = wx at HW2 ⊢
              clear nq
              have HW : Hid (SAt w0 b C off dk wx) := HW2
              clear HW2
              have hlt : i' < j' := scans_part (fun x => ltInt x dk[a]!) (fun x => !ltInt x dk[a]!) (fun x hx => by simpa using hx) dk (a + 1) j0 i' j' (by omega) HU2.out HV2.out hle2
              have HF : Hid (partition ltInt d a (j0 + 1) pivot = ((partLoop ltInt a (i' + 1) (j' - 1) (swp dk i' j')).1, false, swp (partLoop ltInt a (i' + 1) (j' - 1) (swp dk i' j')).2 (partLoop ltInt a (i' + 1) (j' - 1) (swp dk i' j')).1 a)) := by
                show _ = _
                rw [partition]
                simp only [Nat.add_sub_cancel]
                rw [← HD.out, ← HU2.out, ← HV2.out, if_neg (by omega)]
              have hs := HS.out
              have hcw : ∀ t, t < n → wx.cell? ⟨b, off + t, none⟩ = some (.int .i32 (G t)) := fun t ht => by rw [HG.out]; exact HW.out.cell (by omega)
              have hfw : ∀ t, t < n → wx.frozen? ⟨b, off + t, none⟩ = false := fun t _ => HW.out.frozen t
              clear hs
              have HW3 : Hid (SAt w0 b C off (swp dk i' j') ((wx.setCell ⟨b, off + i', none⟩ (.int .i32 (G j'))).setCell ⟨b, off + j', none⟩ (.int .i32 (G i'))).drew) := by
                have hs := HS.out
                rw [HG.out, HG.out]; exact (HW.out.swap (i := i') (j := j') (by omega) (by omega)).drew
              go_wp2
              go_region
              all_goals go_wp2
              clear hcw hfw HW
              have HS3 : Hid ((swp dk i' j').size = n) := by show _ = _; rw [size_swp]; exact HS.out
              generalize ((wx.setCell ⟨b, off + i', none⟩ (.int .i32 (G j'))).setCell ⟨b, off + j', none⟩ (.int .i32 (G i'))).drew = w2 at HW3 ⊢
              obtain ⟨i0, hi0⟩ : ∃ i0, i0 = i' + 1 := ⟨_, rfl⟩
              obtain ⟨j1, hj1⟩ : ∃ j1, j1 = j' - 1 := ⟨_, rfl⟩
              obtain ⟨d1, hd1⟩ : ∃ d1, d1 = swp dk i' j' := ⟨_, rfl⟩
              rw [← hi0, ← hj1, ← hd1] at HF
              rw [← hd1] at HW3 HS3
              have b1 : a < i0 := by omega
              have b2 : i0 ≤ j1 + 1 := by omega
              have b3 : j1 < j0 + 1 := by omega
              have A1 : Hid (((i' : Int) + 1) = (i0 : Int)) := by show _ = _; omega
              have A2 : Hid (((j' : Int) - 1) = (j1 : Int)) := by show _ = _; omega
              clear hi0 hj1 hd1 HU2 HV2 HG HS HD
              go_loopw [10, 11] (fun vi vj wr => ∃ (i j : Nat) (dk : Array Int), vi = .int .i64 i ∧ vj = .int .i64 j ∧ a < i ∧ i ≤ j + 1 ∧ j < j0 + 1 ∧ Hid (dk.size = n) ∧ Hid (SAt w0 b C off dk wr) ∧
                  Hid (partLoop ltInt a i j dk = partLoop ltInt a i0 j1 d1)) (fun vi vj _ => (intOf vj).toNat + 1 - (intOf vi).toNat)
              case atStart => exact ⟨i0, j1, d1, by rw [A1.out], by rw [A2.out], b1, b2, b3, HS3, HW3, rfl⟩
              case round =>
                clear HW3 HS3 A1 A2
                clear hle hle2 hlt hii hij' hjj hij2
                clear b1 b2 b3
                obtain ⟨i, j, dk, rfl, rfl, hai, hij, hje, HS, HW, HO⟩ := hrel
                obtain ⟨G, hG⟩ : ∃ G : Nat → Int, ∀ t, G t = dk[t]! := ⟨fun t => dk[t]!, fun _ => rfl⟩
                have HG : Hid (∀ t, G t = dk[t]!) := hG
                clear hG
                go_wp2
                go_loopw [10] (fun vi wr => ∃ i' : Nat, vi = .int .i64 i' ∧ i ≤ i' ∧ i' ≤ j + 1 ∧ Hid (SAt w0 b C off dk wr) ∧ Hid (scanUp (fun x => ltInt x dk[a]!) dk j i' = scanUp (fun x => ltInt x dk[a]!) dk j i)) (fun vi _ => j + 1 - (intOf vi).toNat)
                case atStart => exact ⟨i, by go_num, Nat.le_refl _, by omega, HW, rfl⟩
                case round =>
                  clear HW
                  obtain ⟨i', rfl, hii, hij', HW, HU⟩ := hrel
                  have hs := HS.out
                  have hcw : ∀ t, t < n → wr.cell? ⟨b, off + t, none⟩ = some (.int .i32 (G t)) := fun t ht => by rw [HG.out]; exact HW.out.cell (by omega)
                  have hfw : ∀ t, t < n → wr.frozen? ⟨b, off + t, none⟩ = false := fun t _ => HW.out.frozen t
                  clear hs
                  by_cases hle : i' ≤ j
                  · go_wp2_with fail
                    go_big_quiet (first | (go_at_call 56; refine Calls.quiet_of_same (less _ _ _)))
                    go_wp2
                    · have ht : ltInt (G i') (G a) = true := by assumption
                      go_roundw
                      case rel => exact ⟨i' + 1, by go_num, by omega, by omega, HW.out.drewN _, (scanUp_go' (fun x => ltInt x dk[a]!) dk j i' hle (by show _ = _; rw [← HG.out a, ← HG.out i']; exact ht)).symm.trans HU.out⟩
                      case measure => simp [intOf]; omega
                    · have ht : ltInt (G i') (G a) = false := by assumption
                      have HU2 : Hid (i' = scanUp (fun x => ltInt x dk[a]!) dk j i) := (scanUp_end' (fun x => ltInt x dk[a]!) dk j i' (Or.inr (by show _ = _; rw [← HG.out a, ← HG.out i']; exact ht))).symm.trans HU.out
                      have HW2 : Hid (SAt w0 b C off dk (wr.drewN nq)) := HW.out.drewN nq
                      (try clear ht)
                      clear HU HW hcw hfw
                      generalize wr.drewN nq = wx at HW2 ⊢
                      clear nq
                      have HW : Hid (SAt w0 b C off dk wx) := HW2
                      clear HW2
                      go_loopw [11] (fun vj wr => ∃ j' : Nat, vj = .int .i64 j' ∧ j' ≤ j ∧ i' ≤ j' + 1 ∧ Hid (SAt w0 b C off dk wr) ∧ Hid (scanDown (fun x => !ltInt x dk[a]!) dk i' j' = scanDown (fun x => !ltInt x dk[a]!) dk i' j)) (fun vj _ => (intOf vj).toNat)
                      case atStart => exact ⟨j, by go_num, Nat.le_refl _, by omega, HW, rfl⟩
                      case round =>
                        clear HW
                        obtain ⟨j', rfl, hjj, hij2, HW, HV⟩ := hrel
                        have hs := HS.out
                        have hcw : ∀ t, t < n → wr.cell? ⟨b, off + t, none⟩ = some (.int .i32 (G t)) := fun t ht => by rw [HG.out]; exact HW.out.cell (by omega)
                        have hfw : ∀ t, t < n → wr.frozen? ⟨b, off + t, none⟩ = false := fun t _ => HW.out.frozen t
                        clear hs
                        by_cases hle2 : i' ≤ j'
                        · go_wp2_with fail
                          go_big_quiet (first | (go_at_call 56; refine Calls.quiet_of_same (less _ _ _)))
                          go_wp2_with fail
                          · have ht : (!ltInt (G j') (G a)) = true := by assumption
                            go_wp2
                            go_roundw
                            case rel => exact ⟨j' - 1, by go_num, by omega, by omega, HW.out.drewN _, (scanDown_go' (fun x => !ltInt x dk[a]!) dk i' j' hle2 (by omega) (by show _ = _; rw [← HG.out a, ← HG.out j']; exact ht)).symm.trans HV.out⟩
                            case measure => simp [intOf]; omega
                          · have ht : (!ltInt (G j') (G a)) = false := by assumption
                            have HV2 : Hid (j' = scanDown (fun x => !ltInt x dk[a]!) dk i' j) := (scanDown_end' (fun x => !ltInt x dk[a]!) dk i' j' (Or.inr (by show _ = _; rw [← HG.out a, ← HG.out j']; exact ht))).symm.trans HV.out
                            have HW2 : Hid (SAt w0 b C off dk (wr.drewN nq)) := HW.out.drewN nq
                            (try clear ht)
                            clear HV HW hcw hfw
                            generalize wr.drewN nq = wx at HW2 ⊢
                            clear nq
                            have HW : Hid (SAt w0 b C off dk wx) := HW2
                            clear HW2
                            have hlt : i' < j' := scans_part (fun x => ltInt x dk[a]!) (fun x => !ltInt x dk[a]!) (fun x hx => by simpa using hx) dk i j i' j' (by omega) HU2.out HV2.out hle2
                            have hs := HS.out
                            have hcw : ∀ t, t < n → wx.cell? ⟨b, off + t, none⟩ = some (.int .i32 (G t)) := fun t ht => by rw [HG.out]; exact HW.out.cell (by omega)
                            have hfw : ∀ t, t < n → wx.frozen? ⟨b, off + t, none⟩ = false := fun t _ => HW.out.frozen t
                            clear hs
                            go_wp2
                            go_region
                            all_goals go_wp2
                            all_goals go_roundw
                            case rel =>
                              have hs := HS.out
                              refine ⟨i' + 1, j' - 1, swp dk i' j', by go_num, by go_num, by omega, by omega, by omega, by show _ = _; rw [size_swp]; exact HS.out, ?_, ?_⟩
                              · have := (HW.out.swap (i := i') (j := j') (by omega) (by omega)).drew
                                rw [HG.out, HG.out]
                                exact this
                              · show _ = _
                                rw [← HO.out, partLoop_eq ltInt a i j dk, ← HU2.out, ← HV2.out, if_neg (by omega)]
                            case measure => simp [intOf]; omega
                        · go_wp2_with fail
                          go_big_quiet (first | (go_at_call 56; refine Calls.quiet_of_same (less _ _ _)))
                          have HV2 : Hid (j' = scanDown (fun x => !ltInt x dk[a]!) dk i' j) := (scanDown_end' (fun x => !ltInt x dk[a]!) dk i' j' (Or.inl hle2)).symm.trans HV.out
                          have HW2 : Hid (SAt w0 b C off dk (wr.drewN nq)) := HW.out.drewN nq
                          (try clear ht)
                          clear HV HW hcw hfw
                          generalize wr.drewN nq = wx at HW2 ⊢
                          clear nq
                          have HW : Hid (SAt w0 b C off dk wx) := HW2
                          clear HW2
                          have hs := HS.out
                          have hcw : ∀ t, t < n → wx.cell? ⟨b, off + t, none⟩ = some (.int .i32 (G t)) := fun t ht => by rw [HG.out]; exact HW.out.cell (by omega)
                          have hfw : ∀ t, t < n → wx.frozen? ⟨b, off + t, none⟩ = false := fun t _ => HW.out.frozen t
                          clear hs
                          obtain ⟨v', hy'⟩ := cell?_setCell_some (w := wx) (p := ⟨b, off + j', none⟩) (x := .int .i32 (G a)) (q := ⟨b, off + a, none⟩) (hcw a (by omega))
                          go_wp2
                          go_region
                          all_goals go_wp2
                          go_ret2
                          have e3 := partLoop_eq ltInt a i j dk
                          rw [← HU2.out, ← HV2.out, if_pos (by omega)] at e3
                          have e2 : partition ltInt d a (j0 + 1) pivot = (j', false, swp dk j' a) := by
                            rw [HF.out, ← HO.out, e3]
                          rw [e2]
                          refine ⟨rfl, ?_⟩
                          have hs := HS.out
                          rw [HG.out, HG.out]
                          exact (HW.out.swap (i := j') (j := a) (by omega) (by omega)).drew
                  · go_wp2_with fail
                    go_big_quiet (first | (go_at_call 56; refine Calls.quiet_of_same (less _ _ _)))
                    go_wp2
                    have HU2 : Hid (i' = scanUp (fun x => ltInt x dk[a]!) dk j i) := (scanUp_end' (fun x => ltInt x dk[a]!) dk j i' (Or.inl hle)).symm.trans HU.out
                    have HW2 : Hid (SAt w0 b C off dk (wr.drewN nq)) := HW.out.drewN nq
                    (try clear ht)
                    clear HU HW hcw hfw
                    generalize wr.drewN nq = wx at HW2 ⊢
                    clear nq
                    have HW : Hid (SAt w0 b C off dk wx) := HW2
                    clear HW2
                    go_loopw [11] (fun vj wr => ∃ j' : Nat, vj = .int .i64 j' ∧ j' ≤ j ∧ i' ≤ j' + 1 ∧ Hid (SAt w0 b C off dk wr) ∧ Hid (scanDown (fun x => !ltInt x dk[a]!) dk i' j' = scanDown (fun x => !ltInt x dk[a]!) dk i' j)) (fun vj _ => (intOf vj).toNat)
                    case atStart => exact ⟨j, by go_num, Nat.le_refl _, by omega, HW, rfl⟩
                    case round =>
                      clear HW
                      obtain ⟨j', rfl, hjj, hij2, HW, HV⟩ := hrel
                      have hs := HS.out
                      have hcw : ∀ t, t < n → wr.cell? ⟨b, off + t, none⟩ = some (.int .i32 (G t)) := fun t ht => by rw [HG.out]; exact HW.out.cell (by omega)
                      have hfw : ∀ t, t < n → wr.frozen? ⟨b, off + t, none⟩ = false := fun t _ => HW.out.frozen t
                      clear hs
                      by_cases hle2 : i' ≤ j'
                      · exfalso; omega
                      · go_wp2_with fail
                        go_big_quiet (first | (go_at_call 56; refine Calls.quiet_of_same (less _ _ _)))
                        have HV2 : Hid (j' = scanDown (fun x => !ltInt x dk[a]!) dk i' j) := (scanDown_end' (fun x => !ltInt x dk[a]!) dk i' j' (Or.inl hle2)).symm.trans HV.out
                        have HW2 : Hid (SAt w0 b C off dk (wr.drewN nq)) := HW.out.drewN nq
                        (try clear ht)
                        clear HV HW hcw hfw
                        generalize wr.drewN nq = wx at HW2 ⊢
                        clear nq
                        have HW : Hid (SAt w0 b C off dk wx) := HW2
                        clear HW2
                        have hs := HS.out
                        have hcw : ∀ t, t < n → wx.cell? ⟨b, off + t, none⟩ = some (.int .i32 (G t)) := fun t ht => by rw [HG.out]; exact HW.out.cell (by omega)
                        have hfw : ∀ t, t < n → wx.frozen? ⟨b, off + t, none⟩ = false := fun t _ => HW.out.frozen t
                        clear hs
                        obtain ⟨v', hy'⟩ := cell?_setCell_some (w := wx) (p := ⟨b, off + j', none⟩) (x := .int .i32 (G a)) (q := ⟨b, off + a, none⟩) (hcw a (by omega))
                        go_wp2
                        go_region
                        all_goals go_wp2
                        go_ret2
                        have e3 := partLoop_eq ltInt a i j dk
                        rw [← HU2.out, ← HV2.out, if_pos (by omega)] at e3
                        have e2 : partition ltInt d a (j0 + 1) pivot = (j', false, swp dk j' a) := by
                          rw [HF.out, ← HO.out, e3]
                        rw [e2]
                        refine ⟨rfl, ?_⟩
                        have hs := HS.out
                        rw [HG.out, HG.out]
                        exact (HW.out.swap (i := j') (j := a) (by omega) (by omega)).drew
          · go_wp2_with fail
            go_big_quiet (first | (go_at_call 56; refine Calls.quiet_of_same (less _ _ _)))
            have HV2 : Hid (j' = scanDown (fun x => !ltInt x dk[a]!) dk i' j0) := (scanDown_end' (fun x => !ltInt x dk[a]!) dk i' j' (Or.inl hle2)).symm.trans HV.out
            have HW2 : Hid (SAt w0 b C off dk (wr.drewN nq)) := HW.out.drewN nq
            (try clear ht)
            clear HV HW hcw hfw
            generalize wr.drewN nq = wx at HW2 ⊢
            clear nq
            have HW : Hid (SAt w0 b C off dk wx) := HW2
            clear HW2
            have hs := HS.out
            have hcw : ∀ t, t < n → wx.cell? ⟨b, off + t, none⟩ = some (.int .i32 (G t)) := fun t ht => by rw [HG.out]; exact HW.out.cell (by omega)
            have hfw : ∀ t, t < n → wx.frozen? ⟨b, off + t, none⟩ = false := fun t _ => HW.out.frozen t
            clear hs
            obtain ⟨v', hy'⟩ := cell?_setCell_some (w := wx) (p := ⟨b, off + j', none⟩) (x := .int .i32 (G a)) (q := ⟨b, off + a, none⟩) (hcw a (by omega))
            go_wp2
            go_region
            all_goals go_wp2
            go_ret2
            have e2 : partition ltInt d a (j0 + 1) pivot = (j', true, swp dk j' a) := by
              rw [partition]
              simp only [Nat.add_sub_cancel]
              rw [← HD.out, ← HU2.out, ← HV2.out, if_pos (by omega)]
            rw [e2]
            refine ⟨rfl, ?_⟩
            have hs := HS.out
            rw [HG.out, HG.out]
            exact (HW.out.swap (i := j') (j := a) (by omega) (by omega)).drew
    · go_wp2_with fail
      go_big_quiet (first | (go_at_call 56; refine Calls.quiet_of_same (less _ _ _)))
      go_wp2
      have HU2 : Hid (i' = scanUp (fun x => ltInt x dk[a]!) dk j0 (a + 1)) := (scanUp_end' (fun x => ltInt x dk[a]!) dk j0 i' (Or.inl hle)).symm.trans HU.out
      have HW2 : Hid (SAt w0 b C off dk (wr.drewN nq)) := HW.out.drewN nq
      (try clear ht)
      clear HU HW hcw hfw
      generalize wr.drewN nq = wx at HW2 ⊢
      clear nq
      have HW : Hid (SAt w0 b C off dk wx) := HW2
      clear HW2
      go_loopw [11] (fun vj wr => ∃ j' : Nat, vj = .int .i64 j' ∧ j' ≤ j0 ∧ i' ≤ j' + 1 ∧ Hid (SAt w0 b C off dk wr) ∧ Hid (scanDown (fun x => !ltInt x dk[a]!) dk i' j' = scanDown (fun x => !ltInt x dk[a]!) dk i' j0)) (fun vj _ => (intOf vj).toNat)
      case atStart => exact ⟨j0, by go_num, Nat.le_refl _, by omega, HW, rfl⟩
      case round =>
        clear HW
        obtain ⟨j', rfl, hjj, hij2, HW, HV⟩ := hrel
        have hs := HS.out
        have hcw : ∀ t, t < n → wr.cell? ⟨b, off + t, none⟩ = some (.int .i32 (G t)) := fun t ht => by rw [HG.out]; exact HW.out.cell (by omega)
        have hfw : ∀ t, t < n → wr.frozen? ⟨b, off + t, none⟩ = false := fun t _ => HW.out.frozen t
        clear hs
        by_cases hle2 : i' ≤ j'
        · exfalso; omega
        · go_wp2_with fail
          go_big_quiet (first | (go_at_call 56; refine Calls.quiet_of_same (less _ _ _)))
          have HV2 : Hid (j' = scanDown (fun x => !ltInt x dk[a]!) dk i' j0) := (scanDown_end' (fun x => !ltInt x dk[a]!) dk i' j' (Or.inl hle2)).symm.trans HV.out
          have HW2 : Hid (SAt w0 b C off dk (wr.drewN nq)) := HW.out.drewN nq
          (try clear ht)
          clear HV HW hcw hfw
          generalize wr.drewN nq = wx at HW2 ⊢
          clear nq
          have HW : Hid (SAt w0 b C off dk wx) := HW2
          clear HW2
          have hs := HS.out
          have hcw : ∀ t, t < n → wx.cell? ⟨b, off + t, none⟩ = some (.int .i32 (G t)) := fun t ht => by rw [HG.out]; exact HW.out.cell (by omega)
          have hfw : ∀ t, t < n → wx.frozen? ⟨b, off + t, none⟩ = false := fun t _ => HW.out.frozen t
          clear hs
          obtain ⟨v', hy'⟩ := cell?_setCell_some (w := wx) (p := ⟨b, off + j', none⟩) (x := .int .i32 (G a)) (q := ⟨b, off + a, none⟩) (hcw a (by omega))
          go_wp2
          go_region
          all_goals go_wp2
          go_ret2
          have e2 : partition ltInt d a (j0 + 1) pivot = (j', true, swp dk j' a) := by
            rw [partition]
            simp only [Nat.add_sub_cancel]
            rw [← HD.out, ← HU2.out, ← HV2.out, if_pos (by omega)]
          rw [e2]
          refine ⟨rfl, ?_⟩
          have hs := HS.out
          rw [HG.out, HG.out]
          exact (HW.out.swap (i := j') (j := a) (by omega) (by omega)).drew
end Go.Proofs.Qxb6602790a
