import Derived.Test.Qxb6602790aCommon
import Derived.Test.Qxb6602790aRows
import Derived.Sort.AssemblyPlain
import Derived.Sort.Row
import Derived.Lib.Walk
import Derived.BigGuard
import Derived.BigCall
import Derived.CellFam
import Derived.Deep.Draws
import Derived.Deep.QuietTactic
import Derived.BigQuiet
import Derived.RegionTactic
namespace Go.Proofs.Qxb6602790a
open Go.RowKit Go.Deep Go.Sort

/-- THE SORT's WORLD: block b is a row of C cells of int32, from 'off' on they hold d; of all else that lay in w0 nothing has turned. -/
structure SAt (w0 : World) (b C off : Nat) (d : Array Int) (w : World) : Prop where
  row : ∃ f, w.rowIs b 21 C f ∧ off + d.size ≤ C ∧ ∀ i, i < d.size → f (off + i) = .int .i32 d[i]!
  grown : w0.grownBy w (some b)

namespace SAt
variable {w0 w : World} {b C off : Nat} {d : Array Int}
theorem cell (h : SAt w0 b C off d w) {i : Nat} (hi : i < d.size) : w.cell? ⟨b, off + i, none⟩ = some (.int .i32 d[i]!) := by
  obtain ⟨f, hr, hC, hf⟩ := h.row
  rw [hr.cell (by omega), hf i hi]
theorem frozen (h : SAt w0 b C off d w) (i : Nat) : w.frozen? ⟨b, off + i, none⟩ = false := by
  obtain ⟨f, hr, _, _⟩ := h.row
  exact hr.frozen _
theorem lt (h : SAt w0 b C off d w) : b < w.heap.size := by
  obtain ⟨f, hr, _, _⟩ := h.row
  exact hr.lt
theorem size (h : SAt w0 b C off d w) : w0.heap.size ≤ w.heap.size := h.grown.size
theorem drew (h : SAt w0 b C off d w) : SAt w0 b C off d w.drew := ⟨h.row, grownBy_drew h.grown⟩
theorem drewN (h : SAt w0 b C off d w) (q : Nat) : SAt w0 b C off d (w.drewN q) := ⟨h.row, ⟨h.grown.os, h.grown.tape, h.grown.output, h.grown.size, h.grown.block⟩⟩
theorem set (h : SAt w0 b C off d w) {i : Nat} (x : Int) (hi : i < d.size) : SAt w0 b C off (d.setIfInBounds i x) (w.setCell ⟨b, off + i, none⟩ (.int .i32 x)) := by
  obtain ⟨f, hr, hC, hf⟩ := h.row
  refine ⟨⟨_, hr.set (off + i) _, by simpa using hC, fun k hk => ?_⟩, grownBy_setCell h.grown _ _⟩
  have hk' : k < d.size := by simpa using hk
  by_cases e : k = i
  · subst e; simp [getElem!_set_same d k x hi]
  · rw [if_neg (by omega), hf k hk', getElem!_set_other d i k x e]
theorem swap (h : SAt w0 b C off d w) {i j : Nat} (hi : i < d.size) (hj : j < d.size) :
    SAt w0 b C off (swp d i j) ((w.setCell ⟨b, off + i, none⟩ (.int .i32 d[j]!)).setCell ⟨b, off + j, none⟩ (.int .i32 d[i]!)) :=
  (h.set _ hi).set _ (by simpa using hj)
theorem alloc (h : SAt w0 b C off d w) (o : Obj) : SAt w0 b C off d (w.alloc o) := by
  obtain ⟨f, hr, hC, hf⟩ := h.row
  exact ⟨⟨f, hr.alloc o, hC, hf⟩, grownBy_alloc' h.grown o⟩
/-- A store into a block of the call's own. -/
theorem other (h : SAt w0 b C off d w) {a : Addr} (hne : b ≠ a.block) (hB : w0.heap.size ≤ a.block) (v : Value) : SAt w0 b C off d (w.setCell a v) := by
  obtain ⟨f, hr, hC, hf⟩ := h.row
  exact ⟨⟨f, hr.setOther hne v, hC, hf⟩, ⟨h.grown.os, h.grown.tape, h.grown.output, by rw [nblk_setCell]; exact h.grown.size,
    fun k hk hn => (blk_setCell_other _ _ _ _ (by omega)).trans (h.grown.block k hk hn)⟩⟩
end SAt

theorem hid {p : Prop} (h : p) : Hid p := h

def intOf : Value → Int | .int _ q => q | _ => 0

set_option maxHeartbeats 1000000 in
theorem isNaN (x : Int) (w : World) : Calls Try.prog 67 #[.int .i32 x] w fun e w' => e = .returned (.bool false) ∧ w' = w := by
  go_enter Try.func67, Try.ntmps67
  go_wp2
  go_ret
  exact ⟨by simp, rfl⟩

set_option maxHeartbeats 1000000 in
/-- cmp.Less at int32. -/
theorem less (x y : Int) (w : World) : Calls Try.prog 56 #[.int .i32 x, .int .i32 y] w fun e w' => e = .returned (.bool (ltInt x y)) ∧ w' = w := by
  go_enter Try.func56, Try.ntmps56
  go_wp2_with (go_at_call 67; refine (isNaN _ _).mono ?_; rintro e w' ⟨rfl, rfl⟩)
  go_ret
  exact ⟨rfl, rfl⟩

/-! ### insertionSort -/
section
variable (lt : Int → Int → Bool)
theorem ins_go (a j : Nat) (d : Array Int) (hj : a < j) (hl : lt d[j]! d[j - 1]! = true) : insInner lt a j d = insInner lt a (j - 1) (swp d j (j - 1)) := by
  match j, hj with
  | k + 1, hj =>
    rw [insInner]
    simp only [Nat.add_sub_cancel] at hl ⊢
    simp [hj, hl]
theorem ins_stop (a j : Nat) (d : Array Int) (h : j ≤ a ∨ lt d[j]! d[j - 1]! = false) : insInner lt a j d = d := by
  match j with
  | 0 => rfl
  | k + 1 =>
    rw [insInner, if_neg]
    simp only [Nat.add_sub_cancel] at h
    rcases h with h | h
    · simp; omega
    · simp [h]
theorem insO_go (a e i : Nat) (d : Array Int) (h : i < e) : insOuter lt a e i d = insOuter lt a e (i + 1) (insInner lt a i d) := by rw [insOuter, if_pos h]
theorem insO_stop (a e i : Nat) (d : Array Int) (h : ¬ i < e) : insOuter lt a e i d = d := by rw [insOuter, if_neg h]
end

set_option maxHeartbeats 4000000 in
set_option maxRecDepth 100000 in
theorem insertion (w0 : World) (b C off cap n a e : Nat) (d : Array Int) (w : World) (h : SAt w0 b C off d w) (hn : d.size = n) (hae : a ≤ e) (he : e ≤ n) (hsz : n < 4611686018427387904) :
    Calls Try.prog 50 #[.slice (some ⟨b, off, none⟩) n cap, .int .i64 a, .int .i64 e] w fun x w' => x = .returned (.tuple #[]) ∧ SAt w0 b C off (insertionSort ltInt d a e) w' := by
  have H : Hid (SAt w0 b C off d w) := h
  have HN : Hid (d.size = n) := hn
  clear h hn
  go_enter Try.func50, Try.ntmps50
  go_wp2
  go_loopw [6] (fun vi wr => ∃ (i : Nat) (dk : Array Int), vi = .int .i64 i ∧ a < i ∧ i ≤ e + 1 ∧ Hid (dk.size = n) ∧ Hid (SAt w0 b C off dk wr) ∧
      Hid (insOuter ltInt a e i dk = insOuter ltInt a e (a + 1) d)) (fun vi _ => e + 1 - (intOf vi).toNat)
  case atStart => exact ⟨a + 1, d, by go_num, by omega, by omega, HN, H, rfl⟩
  case round =>
    obtain ⟨i, dk, rfl, hai, hie, HS, HW, HO⟩ := hrel
    go_wp2
    · have hlt : i < e := by assumption
      go_loopw [7] (fun vj wr2 => ∃ (j : Nat) (dj : Array Int), vj = .int .i64 j ∧ a ≤ j ∧ j ≤ i ∧ Hid (dj.size = n) ∧ Hid (SAt w0 b C off dj wr2) ∧
          Hid (insInner ltInt a j dj = insInner ltInt a i dk)) (fun vj _ => (intOf vj).toNat)
      case atStart => exact ⟨i, dk, rfl, by omega, Nat.le_refl _, HS, HW, rfl⟩
      case round =>
        obtain ⟨j, dj, rfl, haj, hji, HS2, HW2, HI⟩ := hrel
        clear HS HW
        have hs := HS2.out
        obtain ⟨G, hG⟩ : ∃ G : Nat → Int, ∀ t, G t = dj[t]! := ⟨fun t => dj[t]!, fun _ => rfl⟩
        have hcw : ∀ t, t < n → wr.cell? ⟨b, off + t, none⟩ = some (.int .i32 (G t)) := fun t ht => by rw [hG]; exact HW2.out.cell (by omega)
        have hfw : ∀ t, t < n → wr.frozen? ⟨b, off + t, none⟩ = false := fun t _ => HW2.out.frozen t
        have HG : Hid (∀ t, G t = dj[t]!) := hG
        clear hG hs
        have OUT : Hid ((j ≤ a ∨ ltInt dj[j]! dj[j - 1]! = false) → ∀ q, ∃ (i' : Nat) (dk' : Array Int), Value.int .i64 ((i : Int) + 1) = .int .i64 (i' : Nat) ∧ a < i' ∧ i' ≤ e + 1 ∧ Hid (dk'.size = n) ∧
            Hid (SAt w0 b C off dk' (wr.drewN q)) ∧ Hid (insOuter ltInt a e i' dk' = insOuter ltInt a e (a + 1) d)) := fun hs q =>
          ⟨i + 1, dj, by go_num, by omega, by omega, HS2, HW2.out.drewN q, by
            show _ = _
            rw [← HO.out, insO_go _ _ _ _ dk hlt, ← HI.out, ins_stop _ _ _ _ hs]⟩
        by_cases hja : a < j
        · go_wp2
          go_quiet (first | (go_at_call 56; refine Calls.quiet_of_same (less _ _ _)))
          go_wp2
          · have hl : ltInt (G j) (G (j - 1)) = true := by assumption
            have HL : Hid (ltInt dj[j]! dj[j - 1]! = true) := by show _ = _; rw [← HG.out, ← HG.out]; exact hl
            clear hl
            go_region
            all_goals go_wp2
            go_roundw
            case rel =>
              refine ⟨j - 1, swp dj j (j - 1), by congr 1; omega, by omega, by omega, by show _ = _; rw [size_swp]; exact HS2.out, ?_, ?_⟩
              · have hs := HS2.out
                have := ((HW2.out.drewN nq).swap (i := j) (j := j - 1) (by omega) (by omega)).drew
                rw [HG.out, HG.out]
                exact this
              · show _ = _
                rw [← HI.out, ins_go ltInt a j dj hja HL.out]
            case measure => simp [intOf]; omega
          · have hl : ltInt (G j) (G (j - 1)) = false := by assumption
            go_roundw
            case rel => exact OUT.out (Or.inr (by rw [← HG.out, ← HG.out]; exact hl)) nq
            case measure => simp [intOf]; omega
        · go_wp2
          go_quiet (first | (go_at_call 56; refine Calls.quiet_of_same (less _ _ _)))
          go_wp2
          go_roundw
          case rel => exact OUT.out (Or.inl (by omega)) nq
          case measure => simp [intOf]; omega
    · have hge : ¬ i < e := by assumption
      go_end0
      refine ⟨rfl, ?_⟩
      rw [insertionSort, ← HO.out, insO_stop _ _ _ _ _ hge]
      exact HW.out
end Go.Proofs.Qxb6602790a
