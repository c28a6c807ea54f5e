import Derived.Test.Qxb6602874aBytes
import Derived.ProofKit
import Derived.OpenShut
import Derived.ShutString
import Derived.ChangeOld
import Derived.Deep.Matrix
import Derived.Deep.Grids
namespace Go.Proofs.Qxb6602874a
open Go.ChangeShapes Go.WideShapes Go.ChangeAt Go.RowKit Go.Deep

theorem own : ownKnob Try.prog.godebug = none := by kernel_rfl
theorem laidOut : laidOutB Try.prog = true := by kernel_rfl
theorem cells31 : Try.prog.cellsOf 31 = 1 := by kernel_rfl
theorem cells3 : Try.prog.cellsOf 3 = 1 := by kernel_rfl
theorem cells4 : Try.prog.cellsOf 4 = 1 := by kernel_rfl

/-- WHAT THE WALK IS TOLD OF THE LISTS THAT CAME IN. -/
def IsDeps (w : World) (a : Option Addr) (n c : Nat) : Prop :=
  ∃ b o A L C rb ro D, Deps w a n b o A L C rb ro D ∧ NilRows n A L C ∧ (∀ i, i < n → L i ≤ 9223372036854775807) ∧ (a = none → n = 0 ∧ c = 0) ∧ n ≤ 9223372036854775807

def IsFlags (w : World) (a : Option Addr) (m c : Nat) : Prop :=
  ∃ P : Nat → Bool, (∀ ad, a = some ad → ∀ j, j < m → w.cell? (ad.add j) = some (.bool (P j))) ∧ (a = none → m = 0 ∧ c = 0) ∧ m ≤ 9223372036854775807

theorem isDeps_of {H : Type} {enc : TypeId × Value → H} {w : World} {base fuel : Nat} {held : Bool} {a : Option Addr} {n c : Nat} {x : DataW H × List MemPlace}
    (h : DataW.trod enc Try.prog w base (fun _ => true) held fuel 22 [.slice a n c] = some x) : IsDeps w a n c := by
  rcases open_int_rows Try.underlying22 Try.underlying31 Try.underlying3 cells31 cells3 h with ⟨hcs, _⟩ | ⟨ad, len, cap, A, L, C, Z, hcs, _, hl, hm, _, hr⟩
  · simp at hcs
    obtain ⟨rfl, rfl, rfl⟩ := hcs
    exact ⟨0, 0, fun _ => none, fun _ => 0, fun _ => 0, fun _ => 0, fun _ => 0, fun _ _ => 0, ⟨fun h => absurd h (by omega), fun i hi => absurd hi (by omega), fun i hi => absurd hi (by omega), fun i hi => absurd hi (by omega)⟩,
      fun i hi => absurd hi (by omega), fun i hi => absurd hi (by omega), fun _ => ⟨rfl, rfl⟩, by omega⟩
  · simp at hcs
    obtain ⟨rfl, rfl, rfl⟩ := hcs
    unfold maxLen at hm
    have hrow : ∀ i, i < n → ∀ j, j < L i → ∃ rb ro, A i = some ⟨rb, ro, none⟩ ∧ ∀ j, j < L i → w.cell? ⟨rb, ro + j, none⟩ = some (.int .i64 ((Z i).getD j 0)) := by
      intro i hi j hj
      obtain ⟨_, hlc, _, _, _, hnil, hcell⟩ := hr i (by omega)
      cases hA : A i with
      | none => have := hnil hA; omega
      | some ad' =>
        obtain ⟨rb, ro, rfl, _, hc⟩ := cells_plain (n := L i) (g := fun j => .int .i64 ((Z i).getD j 0)) (fun j hj => (hcell ad' hA).2 j (by omega)) (by omega)
        exact ⟨rb, ro, rfl, hc⟩
    have htop : 0 < n → ∃ b o, ad = ⟨b, o, none⟩ ∧ ∀ i, i < n → w.cell? ⟨b, o + i, none⟩ = some (.slice (A i) (L i) (C i)) := by
      intro hn
      obtain ⟨b, o, rfl, _, hc⟩ := cells_plain (n := n) (g := fun i => .slice (A i) (L i) (C i)) (fun i hi => (hr i (by omega)).1) hn
      exact ⟨b, o, rfl, hc⟩
    refine ⟨ad.block, ad.off, A, L, C, fun i => ((A i).getD ⟨0, 0, none⟩).block, fun i => ((A i).getD ⟨0, 0, none⟩).off, fun i j => (Z i).getD j 0, ⟨fun hn => ?_, fun i hi => ?_, fun i hi hL => ?_, fun i hi j hj => ?_⟩, fun i hi hA => ?_, fun i hi => ?_, (fun h => by cases h), by omega⟩
    · obtain ⟨b, o, rfl, _⟩ := htop hn; rfl
    · obtain ⟨b, o, rfl, hc⟩ := htop (by omega); exact hc i hi
    · obtain ⟨rb, ro, hA, _⟩ := hrow i hi 0 hL; rw [hA]; rfl
    · obtain ⟨rb, ro, hA, hc⟩ := hrow i hi j hj
      rw [hA]; exact hc j hj
    · obtain ⟨_, hlc, _, _, _, hnil, _⟩ := hr i (by omega)
      have := hnil hA
      exact ⟨by omega, this⟩
    · obtain ⟨_, hlc, hcm, _⟩ := hr i (by omega)
      unfold maxLen at hcm
      omega

theorem isFlags_of {H : Type} {enc : TypeId × Value → H} {w : World} {base fuel : Nat} {held : Bool} {a : Option Addr} {n c : Nat} {x : DataW H × List MemPlace}
    (h : DataW.trod enc Try.prog w base (fun _ => true) held fuel 23 [.slice a n c] = some x) : IsFlags w a n c := by
  rcases open_bools Try.underlying23 Try.underlying4 cells4 h with ⟨hcs, _⟩ | ⟨ad, len, cap, B, hcs, _, hl, hm, _, hr⟩
  · simp at hcs
    obtain ⟨rfl, rfl, rfl⟩ := hcs
    exact ⟨fun _ => false, (fun ad e => by cases e), fun _ => ⟨rfl, rfl⟩, by omega⟩
  · simp at hcs
    obtain ⟨rfl, rfl, rfl⟩ := hcs
    unfold maxLen at hm
    exact ⟨B, fun ad' e j hj => by cases e; exact hr j (by omega), (fun h => by cases h), by omega⟩
end Go.Proofs.Qxb6602874a
