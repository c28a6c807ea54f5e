import Derived.Test.Qxb6602790aSort0
namespace Go.Proofs.Qxb6602790a
open Go.RowKit Go.Deep Go.Sort

theorem scanUp_go' (p : Int → Bool) (d : Array Int) (j i : Nat) (h : i ≤ j) (hp : p d[i]! = true) : scanUp p d j i = scanUp p d j (i + 1) := by
  rw [scanUp, if_pos (by simp [h, hp])]
theorem scanUp_end' (p : Int → Bool) (d : Array Int) (j i : Nat) (h : ¬ i ≤ j ∨ p d[i]! = false) : scanUp p d j i = i := by
  rw [scanUp, if_neg (by rcases h with h | h <;> simp [h])]
theorem scanDown_go' (p : Int → Bool) (d : Array Int) (i j : Nat) (h : i ≤ j) (h0 : 0 < j) (hp : p d[j]! = true) : scanDown p d i j = scanDown p d i (j - 1) := by
  match j, h0 with
  | k + 1, _ => rw [scanDown, if_pos (by simp [h, hp])]; rfl
theorem scanDown_end' (p : Int → Bool) (d : Array Int) (i j : Nat) (h : ¬ i ≤ j ∨ p d[j]! = false) : scanDown p d i j = j := by
  match j with
  | 0 => rfl
  | k + 1 => rw [scanDown, if_neg (by rcases h with h | h <;> simp [h])]
/-- The two scans of one round do not stop at one place: their tests are each other's contrary. -/
theorem scans_part (p q : Int → Bool) (hpq : ∀ x, p x = false → q x = true) (d : Array Int) (i j i2 j2 : Nat) (h0 : 0 < i) (hi2 : i2 = scanUp p d j i) (hj2 : j2 = scanDown q d i2 j) (h : i2 ≤ j2) : i2 < j2 := by
  subst hi2; subst hj2
  have u := scanUp_spec p d j _ i rfl
  have v := scanDown_spec q d (scanUp p d j i) j
  rcases Nat.lt_or_ge (scanUp p d j i) (scanDown q d (scanUp p d j i) j) with h' | h'
  · exact h'
  · have e : scanDown q d (scanUp p d j i) j = scanUp p d j i := by omega
    have f2 := v.2.2.2 h (by omega)
    rw [e, hpq _ (u.2.2.2 (by omega))] at f2
    cases f2

set_option maxHeartbeats 16000000 in
set_option maxRecDepth 100000 in
theorem partEqual (w0 : World) (b C off cap n a e pivot : Nat) (d : Array Int) (w : World) (h : SAt w0 b C off d w) (hn : d.size = n) (hap : a ≤ pivot) (hpe : pivot < e) (he : e ≤ n) (hsz : n < 4611686018427387904) :
    Calls Try.prog 57 #[.slice (some ⟨b, off, none⟩) n cap, .int .i64 a, .int .i64 e, .int .i64 pivot] w fun x w' => x = .returned (.int .i64 (partitionEqual ltInt d a e pivot).1) ∧ SAt w0 b C off (partitionEqual ltInt d a e pivot).2 w' := by
  obtain ⟨j0, rfl⟩ : ∃ j0, e = j0 + 1 := ⟨e - 1, by omega⟩
  obtain ⟨G0, hG0⟩ : ∃ G0 : Nat → Int, ∀ t, G0 t = d[t]! := ⟨fun t => d[t]!, fun _ => rfl⟩
  have ca : w.cell? ⟨b, off + a, none⟩ = some (.int .i32 (G0 a)) := by rw [hG0]; exact h.cell (by omega)
  have cp : w.cell? ⟨b, off + pivot, none⟩ = some (.int .i32 (G0 pivot)) := by rw [hG0]; exact h.cell (by omega)
  have fa := h.frozen a
  have fp := h.frozen pivot
  have HB : Hid (SAt w0 b C off (swp d a pivot) ((w.setCell ⟨b, off + a, none⟩ (.int .i32 (G0 pivot))).setCell ⟨b, off + pivot, none⟩ (.int .i32 (G0 a))).drew) := by
    rw [hG0, hG0]; exact (h.swap (by omega) (by omega)).drew
  have HN : Hid ((swp d a pivot).size = n) := by show _ = _; rw [size_swp]; exact hn
  clear h hn hG0
  obtain ⟨v', hy'⟩ := cell?_setCell_some (w := w) (p := ⟨b, off + a, none⟩) (x := .int .i32 (G0 pivot)) (q := ⟨b, off + pivot, none⟩) cp
  go_enter Try.func57, Try.ntmps57
  go_wp2
  go_region
  go_wp2
  generalize ((w.setCell ⟨b, off + a, none⟩ (.int .i32 (G0 pivot))).setCell ⟨b, off + pivot, none⟩ (.int .i32 (G0 a))).drew = w1 at HB ⊢
  clear ca cp fa fp hy' v'
  go_loopw [9, 10] (fun vi vj wr => ∃ (i j : Nat) (dk : Array Int), vi = .int .i64 i ∧ vj = .int .i64 j ∧ a < i ∧ i ≤ j + 1 ∧ j < j0 + 1 ∧ Hid (dk.size = n) ∧ Hid (SAt w0 b C off dk wr) ∧
      Hid (partEqLoop ltInt a i j dk = partEqLoop ltInt a (a + 1) j0 (swp d a pivot))) (fun vi vj _ => (intOf vj).toNat + 1 - (intOf vi).toNat)
  case atStart => exact ⟨a + 1, j0, swp d a pivot, by go_num, by go_num, by omega, by omega, by omega, HN, HB, rfl⟩
  case round =>
    clear HB HN
    obtain ⟨i, j, dk, rfl, rfl, hai, hij, hje, HS, HW, HO⟩ := hrel
    obtain ⟨G, hG⟩ : ∃ G : Nat → Int, ∀ t, G t = dk[t]! := ⟨fun t => dk[t]!, fun _ => rfl⟩
    have HG : Hid (∀ t, G t = dk[t]!) := hG
    clear hG
    go_wp2
    go_loopw [9] (fun vi wr => ∃ i' : Nat, vi = .int .i64 i' ∧ i ≤ i' ∧ i' ≤ j + 1 ∧ Hid (SAt w0 b C off dk wr) ∧ Hid (scanUp (fun x => !ltInt dk[a]! x) dk j i' = scanUp (fun x => !ltInt dk[a]! x) dk j i)) (fun vi _ => j + 1 - (intOf vi).toNat)
    case atStart => exact ⟨i, by go_num, Nat.le_refl _, by omega, HW, rfl⟩
    case round =>
      clear HW
      obtain ⟨i', rfl, hii, hij', HW, HU⟩ := hrel
      have hs := HS.out
      have hcw : ∀ t, t < n → wr.cell? ⟨b, off + t, none⟩ = some (.int .i32 (G t)) := fun t ht => by rw [HG.out]; exact HW.out.cell (by omega)
      have hfw : ∀ t, t < n → wr.frozen? ⟨b, off + t, none⟩ = false := fun t _ => HW.out.frozen t
      clear hs
      by_cases hle : i' ≤ j
      · go_wp2_with fail
        go_big_quiet (first | (go_at_call 56; refine Calls.quiet_of_same (less _ _ _)))
        go_wp2
        · have ht : (!ltInt (G a) (G i')) = true := by assumption
          go_roundw
          case rel => exact ⟨i' + 1, by go_num, by omega, by omega, HW.out.drewN _, (scanUp_go' (fun x => !ltInt dk[a]! x) dk j i' hle (by show _ = _; rw [← HG.out a, ← HG.out i']; exact ht)).symm.trans HU.out⟩
          case measure => simp [intOf]; omega
        · have ht : (!ltInt (G a) (G i')) = false := by assumption
          have HU2 : Hid (i' = scanUp (fun x => !ltInt dk[a]! x) dk j i) := (scanUp_end' (fun x => !ltInt dk[a]! x) dk j i' (Or.inr (by show _ = _; rw [← HG.out a, ← HG.out i']; exact ht))).symm.trans HU.out
          have HW2 : Hid (SAt w0 b C off dk (wr.drewN nq)) := HW.out.drewN nq
          (try clear ht)
          clear HU HW hcw hfw
          generalize wr.drewN nq = wx at HW2 ⊢
          clear nq
          have HW : Hid (SAt w0 b C off dk wx) := HW2
          clear HW2
          go_loopw [10] (fun vj wr => ∃ j' : Nat, vj = .int .i64 j' ∧ j' ≤ j ∧ i' ≤ j' + 1 ∧ Hid (SAt w0 b C off dk wr) ∧ Hid (scanDown (fun x => ltInt dk[a]! x) dk i' j' = scanDown (fun x => ltInt dk[a]! x) dk i' j)) (fun vj _ => (intOf vj).toNat)
          case atStart => exact ⟨j, by go_num, Nat.le_refl _, by omega, HW, rfl⟩
          case round =>
            clear HW
            obtain ⟨j', rfl, hjj, hij2, HW, HV⟩ := hrel
            have hs := HS.out
            have hcw : ∀ t, t < n → wr.cell? ⟨b, off + t, none⟩ = some (.int .i32 (G t)) := fun t ht => by rw [HG.out]; exact HW.out.cell (by omega)
            have hfw : ∀ t, t < n → wr.frozen? ⟨b, off + t, none⟩ = false := fun t _ => HW.out.frozen t
            clear hs
            by_cases hle2 : i' ≤ j'
            · go_wp2_with fail
              go_big_quiet (first | (go_at_call 56; refine Calls.quiet_of_same (less _ _ _)))
              go_wp2_with fail
              · have ht : ltInt (G a) (G j') = true := by assumption
                go_wp2
                go_roundw
                case rel => exact ⟨j' - 1, by go_num, by omega, by omega, HW.out.drewN _, (scanDown_go' (fun x => ltInt dk[a]! x) dk i' j' hle2 (by omega) (by show _ = _; rw [← HG.out a, ← HG.out j']; exact ht)).symm.trans HV.out⟩
                case measure => simp [intOf]; omega
              · have ht : ltInt (G a) (G j') = false := by assumption
                have HV2 : Hid (j' = scanDown (fun x => ltInt dk[a]! x) dk i' j) := (scanDown_end' (fun x => ltInt dk[a]! x) dk i' j' (Or.inr (by show _ = _; rw [← HG.out a, ← HG.out j']; exact ht))).symm.trans HV.out
                have HW2 : Hid (SAt w0 b C off dk (wr.drewN nq)) := HW.out.drewN nq
                (try clear ht)
                clear HV HW hcw hfw
                generalize wr.drewN nq = wx at HW2 ⊢
                clear nq
                have HW : Hid (SAt w0 b C off dk wx) := HW2
                clear HW2
                have hlt : i' < j' := scans_part (fun x => !ltInt dk[a]! x) (fun x => ltInt dk[a]! x) (fun x hx => by simpa using hx) dk i j i' j' (by omega) HU2.out HV2.out hle2
                have hs := HS.out
                have hcw : ∀ t, t < n → wx.cell? ⟨b, off + t, none⟩ = some (.int .i32 (G t)) := fun t ht => by rw [HG.out]; exact HW.out.cell (by omega)
                have hfw : ∀ t, t < n → wx.frozen? ⟨b, off + t, none⟩ = false := fun t _ => HW.out.frozen t
                clear hs
                go_wp2
                go_region
                all_goals go_wp2
                all_goals go_roundw
                case rel =>
                  have hs := HS.out
                  refine ⟨i' + 1, j' - 1, swp dk i' j', by go_num, by go_num, by omega, by omega, by omega, by show _ = _; rw [size_swp]; exact HS.out, ?_, ?_⟩
                  · have := (HW.out.swap (i := i') (j := j') (by omega) (by omega)).drew
                    rw [HG.out, HG.out]
                    exact this
                  · show _ = _
                    rw [← HO.out, partEqLoop_eq ltInt a i j dk, ← HU2.out, ← HV2.out, if_neg (by omega)]
                case measure => simp [intOf]; omega
            · go_wp2_with fail
              go_big_quiet (first | (go_at_call 56; refine Calls.quiet_of_same (less _ _ _)))
              have HV2 : Hid (j' = scanDown (fun x => ltInt dk[a]! x) dk i' j) := (scanDown_end' (fun x => ltInt dk[a]! x) dk i' j' (Or.inl hle2)).symm.trans HV.out
              have HW2 : Hid (SAt w0 b C off dk (wr.drewN nq)) := HW.out.drewN nq
              (try clear ht)
              clear HV HW hcw hfw
              generalize wr.drewN nq = wx at HW2 ⊢
              clear nq
              have HW : Hid (SAt w0 b C off dk wx) := HW2
              clear HW2
              go_wp2
              go_ret
              have e2 := partEqLoop_eq ltInt a i j dk
              rw [← HU2.out, ← HV2.out, if_pos (by omega)] at e2
              refine ⟨?_, ?_⟩
              · rw [partitionEqual, Nat.add_sub_cancel, ← HO.out, e2]; rfl
              · rw [partitionEqual, Nat.add_sub_cancel, ← HO.out, e2]; exact HW.out
      · go_wp2_with fail
        go_big_quiet (first | (go_at_call 56; refine Calls.quiet_of_same (less _ _ _)))
        go_wp2
        have HU2 : Hid (i' = scanUp (fun x => !ltInt dk[a]! x) dk j i) := (scanUp_end' (fun x => !ltInt dk[a]! x) dk j i' (Or.inl hle)).symm.trans HU.out
        have HW2 : Hid (SAt w0 b C off dk (wr.drewN nq)) := HW.out.drewN nq
        (try clear ht)
        clear HU HW hcw hfw
        generalize wr.drewN nq = wx at HW2 ⊢
        clear nq
        have HW : Hid (SAt w0 b C off dk wx) := HW2
        clear HW2
        go_loopw [10] (fun vj wr => ∃ j' : Nat, vj = .int .i64 j' ∧ j' ≤ j ∧ i' ≤ j' + 1 ∧ Hid (SAt w0 b C off dk wr) ∧ Hid (scanDown (fun x => ltInt dk[a]! x) dk i' j' = scanDown (fun x => ltInt dk[a]! x) dk i' j)) (fun vj _ => (intOf vj).toNat)
        case atStart => exact ⟨j, by go_num, Nat.le_refl _, by omega, HW, rfl⟩
        case round =>
          clear HW
          obtain ⟨j', rfl, hjj, hij2, HW, HV⟩ := hrel
          have hs := HS.out
          have hcw : ∀ t, t < n → wr.cell? ⟨b, off + t, none⟩ = some (.int .i32 (G t)) := fun t ht => by rw [HG.out]; exact HW.out.cell (by omega)
          have hfw : ∀ t, t < n → wr.frozen? ⟨b, off + t, none⟩ = false := fun t _ => HW.out.frozen t
          clear hs
          by_cases hle2 : i' ≤ j'
          · exfalso; omega
          · go_wp2_with fail
            go_big_quiet (first | (go_at_call 56; refine Calls.quiet_of_same (less _ _ _)))
            have HV2 : Hid (j' = scanDown (fun x => ltInt dk[a]! x) dk i' j) := (scanDown_end' (fun x => ltInt dk[a]! x) dk i' j' (Or.inl hle2)).symm.trans HV.out
            have HW2 : Hid (SAt w0 b C off dk (wr.drewN nq)) := HW.out.drewN nq
            (try clear ht)
            clear HV HW hcw hfw
            generalize wr.drewN nq = wx at HW2 ⊢
            clear nq
            have HW : Hid (SAt w0 b C off dk wx) := HW2
            clear HW2
            go_wp2
            go_ret
            have e2 := partEqLoop_eq ltInt a i j dk
            rw [← HU2.out, ← HV2.out, if_pos (by omega)] at e2
            refine ⟨?_, ?_⟩
            · rw [partitionEqual, Nat.add_sub_cancel, ← HO.out, e2]; rfl
            · rw [partitionEqual, Nat.add_sub_cancel, ← HO.out, e2]; exact HW.out
end Go.Proofs.Qxb6602790a
