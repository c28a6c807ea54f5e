import Derived.Test.Qxb6602874aReads2
namespace Go.Proofs.Qxb6602874a
open Go.RowKit Go.Deep

theorem Try.info3 : (Try.prog.info? 3).map (fun i => (i.zero, i.size, i.bytes)) = some (some (.int .i64 0), 1, 8) := by kernel_rfl
theorem Try.info4 : (Try.prog.info? 4).map (fun i => (i.zero, i.size, i.bytes)) = some (some (.bool false), 1, 1) := by kernel_rfl
theorem Try.info31 : (Try.prog.info? 31).map (fun i => (i.zero, i.size, i.bytes)) = some (some (.slice none 0 0), 1, 24) := by kernel_rfl

/-- What a copy of a slice of l elements is: in a block of its own, where it has an element at all. -/
def Copied (T l : Nat) (g : Nat → Value) (w : World) (e : Ending) (w' : World) : Prop :=
  ∃ a' c', e = .returned (.slice a' l c') ∧ (0 < l → a' = some ⟨w.heap.size, 0, none⟩ ∧ w'.rowIs w.heap.size T l g) ∧ w.grownBy w' none

/-- A row being copied: the first k cells are laid. -/
theorem fill_step {α : Type} (k i : Nat) (u : Nat → α) (z : α) : (if i = k then u k else if i < k then u i else z) = if i < k + 1 then u i else z := by
  by_cases e : i = k
  · subst e; simp
  · rw [if_neg e]
    by_cases h : i < k
    · rw [if_pos h, if_pos (by omega)]
    · rw [if_neg h, if_neg (by omega)]

set_option maxHeartbeats 1000000 in
set_option maxRecDepth 100000 in
theorem cloneInts_any (a : Option Addr) (l c b o : Nat) (d : Nat → Int) (w : World) (hl : l ≤ 1048576) (hnil : a = none → l = 0 ∧ c = 0)
    (hlies : 0 < l → a = some ⟨b, o, none⟩) (hnum : ∀ j, j < l → w.cell? ⟨b, o + j, none⟩ = some (.int .i64 (d j))) :
    Calls Try.prog 18 #[.slice a l c] w fun e w' => Copied 3 l (fun j => .int .i64 (d j)) w e w' := by
  have HI : Hid (0 < l → a = some ⟨b, o, none⟩) := hlies
  have HD : Hid (∀ j, j < l → w.cell? ⟨b, o + j, none⟩ = some (.int .i64 (d j))) := hnum
  clear hlies hnum
  have hq := fun w => Lib.run_eql_slice_nil (P := Try.prog) w 31 3 a l c 0 0 Try.underlying31
  cases a with
  | none =>
    obtain ⟨rfl, rfl⟩ := hnil rfl
    go_enter Try.func18, Try.ntmps18
    go_wp2
    go_ret
    exact ⟨none, 0, rfl, fun h => absurd h (by omega), grownBy_refl _ _⟩
  | some ad =>
    clear hnil
    have hmk := run_make_row' (P := Try.prog) 31 3 (.int .i64 0) 8 Try.underlying31 Try.info3 rfl .i64 .i64 l (by omega) (by omega)
    go_enter Try.func18, Try.ntmps18
    go_wp2
    go_loopw [4] (fun i wr => ∃ k : Nat, k ≤ l ∧ i = .int .i64 k ∧ Hid (wr.rowIs w.heap.size 3 l (fun i => if i < k then .int .i64 (d i) else .int .i64 0) ∧ Below w.heap.size w wr)) (fun i _ => l - (intOf i).toNat)
    case atStart => exact ⟨0, Nat.zero_le _, rfl, (World.rowIs_made w _ l 3).congr (fun i _ => by simp), (Below.refl _ _).alloc (Nat.le_refl _) _⟩
    case round =>
      obtain ⟨k, hk, rfl, HR⟩ := hrel
      by_cases hlt : k < l
      · have hal := HI.out (by omega)
        obtain rfl := Option.some.inj hal
        have hbl : b < w.heap.size := World.block_lt_of_cell? w _ (HD.out k hlt)
        have c1 : wr.cell? ⟨b, o + k, none⟩ = some (.int .i64 (d k)) := (HR.out.2.cell (p := ⟨b, o + k, none⟩) hbl).trans (HD.out k hlt)
        have c2 := HR.out.1.cell hlt
        have f2 := HR.out.1.frozen k
        have hki : (k : Int) < (l : Int) := by omega
        simp at c2
        clear hal hbl
        go_wp2
        go_roundw
        case rel =>
          refine ⟨k + 1, by omega, by go_num, ?_, HR.out.2.setCell (Nat.le_refl _) _⟩
          exact (HR.out.1.set k (.int .i64 (d k))).congr fun i _ => fill_step k i (fun i => Value.int .i64 (d i)) _
        case measure => simp [intOf]; omega
      · go_wp2
        go_ret
        refine ⟨_, l, rfl, fun _ => ⟨rfl, HR.out.1.congr fun i hi => by rw [if_pos (by omega)]⟩, grownBy_of_below HR.out.2⟩

set_option maxHeartbeats 1000000 in
set_option maxRecDepth 100000 in
theorem cloneBools_any (a : Option Addr) (l c : Nat) (d : Nat → Bool) (w : World) (hl : l ≤ 1048576) (hnil : a = none → l = 0 ∧ c = 0)
    (hsrc : ∀ ad, a = some ad → ∀ j, j < l → w.cell? (ad.add j) = some (.bool (d j))) :
    Calls Try.prog 11 #[.slice a l c] w fun e w' => Copied 4 l (fun j => .bool (d j)) w e w' := by
  have HS : Hid (∀ ad, a = some ad → ∀ j, j < l → w.cell? (ad.add j) = some (.bool (d j))) := hsrc
  clear hsrc
  have hq := fun w => Lib.run_eql_slice_nil (P := Try.prog) w 23 4 a l c 0 0 Try.underlying23
  cases a with
  | none =>
    obtain ⟨rfl, rfl⟩ := hnil rfl
    go_enter Try.func11, Try.ntmps11
    go_wp2
    go_ret
    exact ⟨none, 0, rfl, fun h => absurd h (by omega), grownBy_refl _ _⟩
  | some ad =>
    clear hnil
    have hmk := run_make_row' (P := Try.prog) 23 4 (.bool false) 1 Try.underlying23 Try.info4 rfl .i64 .i64 l (by omega) (by omega)
    go_enter Try.func11, Try.ntmps11
    go_wp2
    go_loopw [4] (fun i wr => ∃ k : Nat, k ≤ l ∧ i = .int .i64 k ∧ Hid (wr.rowIs w.heap.size 4 l (fun i => if i < k then .bool (d i) else .bool false) ∧ Below w.heap.size w wr)) (fun i _ => l - (intOf i).toNat)
    case atStart => exact ⟨0, Nat.zero_le _, rfl, (World.rowIs_made w _ l 4).congr (fun i _ => by simp), (Below.refl _ _).alloc (Nat.le_refl _) _⟩
    case round =>
      obtain ⟨k, hk, rfl, HR⟩ := hrel
      by_cases hlt : k < l
      · obtain ⟨b, o, rfl, hbl, hcl⟩ := cells_plain (HS.out ad rfl) (by omega)
        have c1 : wr.cell? ⟨b, o + k, none⟩ = some (.bool (d k)) := (HR.out.2.cell (p := ⟨b, o + k, none⟩) hbl).trans (hcl k hlt)
        have c2 := HR.out.1.cell hlt
        have f2 := HR.out.1.frozen k
        have hki : (k : Int) < (l : Int) := by omega
        simp at c2
        clear hcl hbl
        go_wp2
        go_roundw
        case rel =>
          refine ⟨k + 1, by omega, by go_num, ?_, HR.out.2.setCell (Nat.le_refl _) _⟩
          exact (HR.out.1.set k (.bool (d k))).congr fun i _ => fill_step k i (fun i => Value.bool (d i)) _
        case measure => simp [intOf]; omega
      · go_wp2
        go_ret
        refine ⟨_, l, rfl, fun _ => ⟨rfl, HR.out.1.congr fun i hi => by rw [if_pos (by omega)]⟩, grownBy_of_below HR.out.2⟩
end Go.Proofs.Qxb6602874a
