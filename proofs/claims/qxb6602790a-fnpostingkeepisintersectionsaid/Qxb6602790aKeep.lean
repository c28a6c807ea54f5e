import Derived.Test.Qxb6602790aClones
import Derived.Test.Qxb6602790aKeepLaw
import Derived.Deep.QuietTactic
import Derived.BigQuiet
import Derived.Deep.LoopGhost
import Derived.BigRegion
namespace Go.Proofs.Qxb6602790a
open Go.RowKit Go.Deep KeepLaw

theorem and_step {α : Type} (k i : Nat) (u v : Nat → α) : (if i = k then u k else if i < k then u i else v i) = if i < k + 1 then u i else v i := by
  by_cases e : i = k
  · subst e; simp
  · rw [if_neg e]
    by_cases h : i < k
    · rw [if_pos h, if_pos (by omega)]
    · rw [if_neg h, if_neg (by omega)]

set_option maxHeartbeats 1000000 in
set_option maxRecDepth 100000 in
theorem and_any (ab ao : Option Addr) (n m cb co b bo : Nat) (F G : Nat → Int) (w : World) (hn : n ≤ 1048576) (hnm : n ≤ m) (hm : m ≤ 1048576) (hao : ao ≠ none)
    (hb : 0 < n → ab = some ⟨b, 0, none⟩ ∧ w.rowIs b 40 n (fun i => .int .u64 (F i)))
    (ho : 0 < n → ao = some ⟨bo, 0, none⟩ ∧ w.rowIs bo 40 m (fun i => .int .u64 (G i))) (hne : 0 < n → b ≠ bo) :
    Calls Try.prog 44 #[.slice ab n cb, .slice ao m co] w fun e w' => e = .returned (.tuple #[]) ∧ (0 < n → w'.rowIs b 40 n (fun i => .int .u64 (bits .and .u64 (F i) (G i)))) ∧ w.grownBy w' (some b) := by
  have hq := fun w => Lib.run_eql_slice_nil (P := Try.prog) w 80 40 ao m co 0 0 Try.underlying80
  have hsn : ao.isNone = false := by cases ao with | none => exact absurd rfl hao | some _ => rfl
  have HB : Hid (0 < n → ab = some ⟨b, 0, none⟩ ∧ w.rowIs b 40 n (fun i => .int .u64 (F i))) := hb
  have HO : Hid (0 < n → ao = some ⟨bo, 0, none⟩ ∧ w.rowIs bo 40 m (fun i => .int .u64 (G i))) := ho
  have HN : Hid (0 < n → b ≠ bo) := hne
  clear hb ho hne
  go_enter Try.func44, Try.ntmps44
  go_wp2
  go_loopw [10] (fun i wr => ∃ k : Nat, k ≤ n ∧ i = .int .i64 k ∧ Hid ((0 < n → wr.rowIs b 40 n (fun i => if i < k then .int .u64 (bits .and .u64 (F i) (G i)) else .int .u64 (F i))) ∧ w.grownBy wr (some b))) (fun i _ => n - (intOf i).toNat)
  case atStart => exact ⟨0, Nat.zero_le _, rfl, fun h => by simpa using (HB.out h).2, grownBy_refl _ _⟩
  case round =>
    obtain ⟨k, hk, rfl, HR⟩ := hrel
    by_cases hlt : k < n
    · obtain ⟨rfl, hrow⟩ := HB.out (by omega)
      obtain ⟨rfl, hrowo⟩ := HO.out (by omega)
      have hc1 : wr.cell? ⟨b, k, none⟩ = some (.int .u64 (F k)) := by have := (HR.out.1 (by omega)).cell hlt; simpa using this
      have hf1 : wr.frozen? ⟨b, k, none⟩ = false := (HR.out.1 (by omega)).frozen k
      have hc2 : wr.cell? ⟨bo, k, none⟩ = some (.int .u64 (G k)) := (rowIs_grown hrowo HR.out.2 (by simpa using fun e => HN.out (by omega) e.symm)).cell (by omega)
      have hki : (k : Int) < (n : Int) := by omega
      have hkm : (k : Int) < (m : Int) := by omega
      clear hrow hrowo
      go_wp2
      go_region
      go_wp2
      go_roundw
      case rel =>
        refine ⟨k + 1, by omega, by go_num, fun h => ?_, ?_⟩
        · refine (((HR.out.1 h).set k (.int .u64 (bits .and .u64 (F k) (G k)))).drew).congr fun i hi => ?_
          exact and_step k i (fun i => Value.int .u64 (bits .and .u64 (F i) (G i))) (fun i => Value.int .u64 (F i))
        · exact grownBy_drew (grownBy_setCell HR.out.2 _ _)
      case measure => simp [intOf]; omega
    · go_wp2
      go_end0
      refine ⟨rfl, fun h => ((HR.out.1 h).congr fun i hi => ?_), HR.out.2⟩
      rw [if_pos (by omega)]

set_option maxRecDepth 100000 in
theorem index_any (a : Option Addr) (n c b : Nat) (F : Nat → Int) (w : World) (hn : n ≤ 1048576) (hb : 0 < n → a = some ⟨b, 0, none⟩ ∧ w.rowIs b 40 n (fun i => .int .u64 (F i))) :
    Calls Try.prog 61 #[.slice a n c, .func (.func 49) #[] #[]] w fun e w' => (∃ r : Int, e = .returned (.int .i64 r) ∧ decide (0 ≤ r) = anyNZ F n) ∧ w' = w := by
  have HB : Hid (0 < n → a = some ⟨b, 0, none⟩ ∧ w.rowIs b 40 n (fun i => .int .u64 (F i))) := hb
  clear hb
  go_enter Try.func61, Try.ntmps61
  go_wp2
  go_loop [8] (fun i => ∃ k : Nat, k ≤ n ∧ i = .int .i64 k ∧ Hid (∀ j, j < k → F j = 0)) (fun i => n - (intOf i).toNat)
  case atStart => exact ⟨0, Nat.zero_le _, rfl, fun j hj => absurd hj (by omega)⟩
  case round =>
    obtain ⟨k, hk, rfl, HZ⟩ := hrel
    by_cases hlt : k < n
    · obtain ⟨rfl, hrow⟩ := HB.out (by omega)
      have hc : w.cell? ⟨b, k, none⟩ = some (.int .u64 (F k)) := hrow.cell hlt
      clear hrow
      by_cases h0 : F k = 0
      · have H0 : Hid (F k = 0) := h0
        have hz : (F k != 0) = false := by simp [h0]
        clear h0
        go_wp2
        go_round
        case rel =>
          refine ⟨k + 1, by omega, by go_num, fun j hj => ?_⟩
          by_cases e : j = k
          · rw [e]; exact H0.out
          · exact HZ.out j (by omega)
        case measure => simp [intOf]; omega
      · have H0 : Hid (¬ F k = 0) := h0
        have hz : (F k != 0) = true := by simp [h0]
        clear h0
        go_wp2
        go_ret
        exact ⟨⟨k, rfl, by rw [anyNZ_of n k hlt H0.out]; simp⟩, rfl⟩
    · go_wp2
      go_ret
      exact ⟨⟨-1, rfl, by rw [anyNZ_false n (fun j hj => HZ.out j (by omega))]; rfl⟩, rfl⟩

theorem contains_any (a : Option Addr) (n c b : Nat) (F : Nat → Int) (w : World) (hn : n ≤ 1048576) (hb : 0 < n → a = some ⟨b, 0, none⟩ ∧ w.rowIs b 40 n (fun i => .int .u64 (F i))) :
    Calls Try.prog 48 #[.slice a n c, .func (.func 49) #[] #[]] w fun e w' => e = .returned (.bool (anyNZ F n)) ∧ w' = w := by
  go_enter Try.func48, Try.ntmps48
  go_wp2_with fail
  refine (index_any a n c b F _ hn hb).mono ?_
  rintro e w1 ⟨⟨r, rfl, hr⟩, rfl⟩
  have HR : Hid (decide (0 ≤ r) = anyNZ F n) := hr
  clear hr
  go_wp2
  go_ret
  exact ⟨by rw [← HR.out]; rfl, rfl⟩

theorem any_any (a : Option Addr) (n c b : Nat) (F : Nat → Int) (w : World) (hn : n ≤ 1048576) (hb : 0 < n → a = some ⟨b, 0, none⟩ ∧ w.rowIs b 40 n (fun i => .int .u64 (F i))) :
    Calls Try.prog 45 #[.slice a n c] w fun e w' => e = .returned (.bool (anyNZ F n)) ∧ w' = w := by
  go_enter Try.func45, Try.ntmps45
  go_wp2_with fail
  refine (contains_any a n c b F _ hn hb).mono ?_
  rintro e w1 ⟨rfl, rfl⟩
  go_wp2
  go_ret
  exact ⟨rfl, rfl⟩
end Go.Proofs.Qxb6602790a
