import Derived.Test.Qxb6602790aSort0
namespace Go.Proofs.Qxb6602790a
open Go.RowKit Go.Deep Go.Sort

theorem rev_go (i j : Nat) (d : Array Int) (h : i < j) : reverseLoop i j d = reverseLoop (i + 1) (j - 1) (swp d i j) := by rw [reverseLoop, if_pos h]
theorem rev_stop (i j : Nat) (d : Array Int) (h : ¬ i < j) : reverseLoop i j d = d := by rw [reverseLoop, if_neg h]

set_option maxHeartbeats 4000000 in
set_option maxRecDepth 100000 in
theorem reverse (w0 : World) (b C off cap n a e : Nat) (d : Array Int) (w : World) (h : SAt w0 b C off d w) (hn : d.size = n) (hae : a < e) (he : e ≤ n) (hsz : n < 4611686018427387904) :
    Calls Try.prog 54 #[.slice (some ⟨b, off, none⟩) n cap, .int .i64 a, .int .i64 e] w fun x w' => x = .returned (.tuple #[]) ∧ SAt w0 b C off (reverseRange d a e) w' := by
  have H : Hid (SAt w0 b C off d w) := h
  have HN : Hid (d.size = n) := hn
  clear h hn
  go_enter Try.func54, Try.ntmps54
  go_wp2
  go_loopw [6, 7] (fun vi vj wr => ∃ (i j : Nat) (dk : Array Int), vi = .int .i64 i ∧ vj = .int .i64 j ∧ a ≤ i ∧ i ≤ j + 1 ∧ j < e ∧ Hid (dk.size = n) ∧ Hid (SAt w0 b C off dk wr) ∧
      Hid (reverseLoop i j dk = reverseLoop a (e - 1) d)) (fun _ vj _ => (intOf vj).toNat)
  case atStart => exact ⟨a, e - 1, d, rfl, by go_num, by omega, by omega, by omega, HN, H, rfl⟩
  case round =>
    obtain ⟨i, j, dk, rfl, rfl, hai, hij, hje, HS, HW, HO⟩ := hrel
    obtain ⟨G, hG⟩ : ∃ G : Nat → Int, ∀ t, G t = dk[t]! := ⟨fun t => dk[t]!, fun _ => rfl⟩
    have hs := HS.out
    have hcw : ∀ t, t < n → wr.cell? ⟨b, off + t, none⟩ = some (.int .i32 (G t)) := fun t ht => by rw [hG]; exact HW.out.cell (by omega)
    have hfw : ∀ t, t < n → wr.frozen? ⟨b, off + t, none⟩ = false := fun t _ => HW.out.frozen t
    have HG : Hid (∀ t, G t = dk[t]!) := hG
    clear hG hs
    by_cases hlt : i < j
    · go_wp2
      go_region
      all_goals go_wp2
      go_roundw
      case rel =>
        refine ⟨i + 1, j - 1, swp dk i j, by go_num, by go_num, by omega, by omega, by omega, by show _ = _; rw [size_swp]; exact HS.out, ?_, ?_⟩
        · have hs := HS.out
          have := (HW.out.swap (i := i) (j := j) (by omega) (by omega)).drew
          rw [HG.out, HG.out]
          exact this
        · show _ = _
          rw [← HO.out, rev_go i j dk hlt]
      case measure => simp [intOf]; omega
    · go_wp2
      go_end0
      refine ⟨rfl, ?_⟩
      rw [reverseRange, ← HO.out, rev_stop _ _ _ hlt]
      exact HW.out

/-! ### the heap -/
section
variable (lt : Int → Int → Bool)
theorem sift_end {hi F r : Nat} (d : Array Int) (h : hi ≤ 2 * r + 1) : siftDown lt hi F r d = d := by rw [siftDown, dif_pos h]
/-- The child that a round takes. -/
def Child (lt : Int → Int → Bool) (d : Array Int) (F hi r c : Nat) : Prop :=
  (2 * r + 2 < hi ∧ lt d[F + (2 * r + 1)]! d[F + (2 * r + 2)]! = true ∧ c = 2 * r + 2) ∨ ((2 * r + 2 < hi → lt d[F + (2 * r + 1)]! d[F + (2 * r + 2)]! = false) ∧ c = 2 * r + 1)
theorem sift_stop {hi F r c : Nat} (d : Array Int) (h0 : 2 * r + 1 < hi)
    (hc : Child lt d F hi r c)
    (h : lt d[F + r]! d[F + c]! = false) : siftDown lt hi F r d = d := by
  rw [siftDown, dif_neg (by omega), show F + (2 * r + 1) + 1 = F + (2 * r + 2) by omega]
  rcases hc with ⟨h1, h2, rfl⟩ | ⟨h1, rfl⟩
  · simp [h2, h, show 2 * r + 1 + 1 < hi by omega]
  · by_cases h2 : 2 * r + 2 < hi
    · simp [h1 h2, h]
    · simp [show ¬ 2 * r + 1 + 1 < hi by omega, h]
theorem sift_go {hi F r c : Nat} (d : Array Int) (h0 : 2 * r + 1 < hi)
    (hc : Child lt d F hi r c)
    (h : lt d[F + r]! d[F + c]! = true) : siftDown lt hi F r d = siftDown lt hi F c (swp d (F + r) (F + c)) := by
  rw [siftDown, dif_neg (by omega), show F + (2 * r + 1) + 1 = F + (2 * r + 2) by omega]
  rcases hc with ⟨h1, h2, rfl⟩ | ⟨h1, rfl⟩
  · simp [h2, h, show 2 * r + 1 + 1 < hi by omega]
  · by_cases h2 : 2 * r + 2 < hi
    · simp [h1 h2, h]
    · simp [show ¬ 2 * r + 1 + 1 < hi by omega, h]
theorem sift_size (hi F : Nat) : ∀ (n r : Nat) (d : Array Int), hi - r ≤ n → (siftDown lt hi F r d).size = d.size := by
  intro n
  induction n with
  | zero => intro r d h; rw [sift_end lt d (by omega)]
  | succ n ih =>
    intro r d h
    by_cases h0 : 2 * r + 1 < hi
    · by_cases h1 : 2 * r + 2 < hi ∧ lt d[F + (2 * r + 1)]! d[F + (2 * r + 2)]! = true
      · cases h2 : lt d[F + r]! d[F + (2 * r + 2)]! with
        | false => rw [sift_stop lt d h0 (.inl ⟨h1.1, h1.2, rfl⟩) h2]
        | true => rw [sift_go lt d h0 (.inl ⟨h1.1, h1.2, rfl⟩) h2, ih _ _ (by omega), size_swp]
      · have hc : 2 * r + 2 < hi → lt d[F + (2 * r + 1)]! d[F + (2 * r + 2)]! = false := fun h => by
          cases e : lt d[F + (2 * r + 1)]! d[F + (2 * r + 2)]! with
          | false => rfl
          | true => exact absurd ⟨h, e⟩ h1
        cases h2 : lt d[F + r]! d[F + (2 * r + 1)]! with
        | false => rw [sift_stop lt d h0 (.inr ⟨hc, rfl⟩) h2]
        | true => rw [sift_go lt d h0 (.inr ⟨hc, rfl⟩) h2, ih _ _ (by omega), size_swp]
    · rw [sift_end lt d (by omega)]
end
end Go.Proofs.Qxb6602790a
