import Derived.Test.Qxb6602790aRows
import Derived.Test.Qxb6602790aCommon
namespace Go.Proofs.Qxb6602790a
open Go.RowKit Go.Deep

theorem Try.info40 : (Try.prog.info? 40).map (fun i => (i.zero, i.size, i.bytes)) = some (some (.int .u64 0), 1, 8) := by kernel_rfl
theorem Try.info21 : (Try.prog.info? 21).map (fun i => (i.zero, i.size, i.bytes)) = some (some (.int .i32 0), 1, 4) := by kernel_rfl
theorem Try.size40 : (Try.prog.info? 40).map (·.size) = some 1 := by kernel_rfl
theorem Try.size21 : (Try.prog.info? 21).map (·.size) = some 1 := by kernel_rfl

theorem cloneW_nil (w : World) : Calls Try.prog 21 #[.slice none 0 0] w fun e w' => e = .returned (.slice none 0 0) ∧ w' = w := by
  have hq := fun w => Lib.run_eql_slice_nil (P := Try.prog) w 36 40 none 0 0 0 0 Try.underlying36
  go_enter Try.func21, Try.ntmps21
  go_wp2
  go_ret
  exact ⟨rfl, rfl⟩

set_option maxRecDepth 100000 in
theorem cloneW_some (ad : Addr) (n c : Nat) (cs : List Value) (hcs : cs.length = n) (w : World) (hn : n ≤ 1048576)
    (hsrc : ∀ j v, cs[j]? = some v → w.cell? (ad.add j) = some v) (h1 : ∀ v ∈ cs, v.oneCell' = true) :
    Calls Try.prog 21 #[.slice (some ad) n c] w fun e w' => e = .returned (.slice (some ⟨w.heap.size, 0, none⟩) n n) ∧ w' = w.alloc (.cells cs.toArray 40) := by
  have hq := fun w => Lib.run_eql_slice_nil (P := Try.prog) w 36 40 (some ad) n c 0 0 Try.underlying36
  have hmk := run_make_row' (P := Try.prog) 36 40 (.int .u64 0) 8 Try.underlying36 Try.info40 rfl .i64 .i64 n (by omega) (by omega)
  have hcp := run_copy_fresh Try.prog w 36 40 (.int .u64 0) n c ad cs Try.underlying36 Try.size40 hcs hsrc h1 3
  clear hcs hsrc h1
  go_enter Try.func21, Try.ntmps21
  go_wp2
  go_ret
  exact ⟨rfl, rfl⟩

theorem cloneI_nil (w : World) : Calls Try.prog 20 #[.slice none 0 0] w fun e w' => e = .returned (.slice none 0 0) ∧ w' = w := by
  have hq := fun w => Lib.run_eql_slice_nil (P := Try.prog) w 29 21 none 0 0 0 0 Try.underlying29
  go_enter Try.func20, Try.ntmps20
  go_wp2
  go_ret
  exact ⟨rfl, rfl⟩

set_option maxRecDepth 100000 in
theorem cloneI_some (ad : Addr) (n c : Nat) (cs : List Value) (hcs : cs.length = n) (w : World) (hn : n ≤ 1048576)
    (hsrc : ∀ j v, cs[j]? = some v → w.cell? (ad.add j) = some v) (h1 : ∀ v ∈ cs, v.oneCell' = true) :
    Calls Try.prog 20 #[.slice (some ad) n c] w fun e w' => e = .returned (.slice (some ⟨w.heap.size, 0, none⟩) n n) ∧ w' = w.alloc (.cells cs.toArray 21) := by
  have hq := fun w => Lib.run_eql_slice_nil (P := Try.prog) w 29 21 (some ad) n c 0 0 Try.underlying29
  have hmk := run_make_row' (P := Try.prog) 29 21 (.int .i32 0) 4 Try.underlying29 Try.info21 rfl .i64 .i64 n (by omega) (by omega)
  have hcp := run_copy_fresh Try.prog w 29 21 (.int .i32 0) n c ad cs Try.underlying29 Try.size21 hcs hsrc h1 3
  clear hcs hsrc h1
  go_enter Try.func20, Try.ntmps20
  go_wp2
  go_ret
  exact ⟨rfl, rfl⟩

/-- THE TWO IN ONE: what the copy of a slice of whole numbers is: nil just where it is nil; else in a block of its own. -/
theorem cloneW_any (a : Option Addr) (n c : Nat) (f : Nat → Int) (w : World) (hn : n ≤ 1048576) (hnil : a = none → n = 0 ∧ c = 0)
    (hsrc : ∀ ad, a = some ad → ∀ j, j < n → w.cell? (ad.add j) = some (.int .u64 (f j))) :
    Calls Try.prog 21 #[.slice a n c] w fun e w' => ∃ a' c', e = .returned (.slice a' n c') ∧ (a' = none ↔ a = none) ∧ (a' = none → c' = 0) ∧ (0 < n → a' = some ⟨w.heap.size, 0, none⟩ ∧ w'.rowIs w.heap.size 40 n (fun i => .int .u64 (f i))) ∧ w.grownBy w' none := by
  cases a with
  | none =>
    obtain ⟨rfl, rfl⟩ := hnil rfl
    refine (cloneW_nil w).mono ?_
    rintro e w' ⟨rfl, rfl⟩
    exact ⟨none, 0, rfl, Iff.rfl, fun _ => rfl, fun h => absurd h (by omega), grownBy_refl _ _⟩
  | some ad =>
    refine (cloneW_some ad n c ((List.range n).map fun j => .int .u64 (f j)) (by simp) w hn (fun j v h => ?_) (fun v h => ?_)).mono ?_
    · obtain ⟨hj, rfl⟩ := List.getElem?_eq_some_iff.1 h
      simp at hj ⊢
      exact hsrc ad rfl j hj
    · simp at h; obtain ⟨j, _, rfl⟩ := h; rfl
    rintro e w' ⟨rfl, rfl⟩
    refine ⟨_, n, rfl, by simp, by simp, fun _ => ⟨rfl, ?_⟩, World.grownBy_alloc _ _ _⟩
    exact rowIs_of_list w 40 n _ (by simp) _ (fun i hi => by simp [hi])

theorem cloneI_any (a : Option Addr) (n c : Nat) (f : Nat → Int) (w : World) (hn : n ≤ 1048576) (hnil : a = none → n = 0 ∧ c = 0)
    (hsrc : ∀ ad, a = some ad → ∀ j, j < n → w.cell? (ad.add j) = some (.int .i32 (f j))) :
    Calls Try.prog 20 #[.slice a n c] w fun e w' => ∃ a' c', e = .returned (.slice a' n c') ∧ (a' = none ↔ a = none) ∧ (a' = none → c' = 0) ∧ (0 < n → a' = some ⟨w.heap.size, 0, none⟩ ∧ w'.rowIs w.heap.size 21 n (fun i => .int .i32 (f i))) ∧ w.grownBy w' none := by
  cases a with
  | none =>
    obtain ⟨rfl, rfl⟩ := hnil rfl
    refine (cloneI_nil w).mono ?_
    rintro e w' ⟨rfl, rfl⟩
    exact ⟨none, 0, rfl, Iff.rfl, fun _ => rfl, fun h => absurd h (by omega), grownBy_refl _ _⟩
  | some ad =>
    refine (cloneI_some ad n c ((List.range n).map fun j => .int .i32 (f j)) (by simp) w hn (fun j v h => ?_) (fun v h => ?_)).mono ?_
    · obtain ⟨hj, rfl⟩ := List.getElem?_eq_some_iff.1 h
      simp at hj ⊢
      exact hsrc ad rfl j hj
    · simp at h; obtain ⟨j, _, rfl⟩ := h; rfl
    rintro e w' ⟨rfl, rfl⟩
    refine ⟨_, n, rfl, by simp, by simp, fun _ => ⟨rfl, ?_⟩, World.grownBy_alloc _ _ _⟩
    exact rowIs_of_list w 21 n _ (by simp) _ (fun i hi => by simp [hi])
end Go.Proofs.Qxb6602790a
