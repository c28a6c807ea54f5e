/-
  THE PROOF OF 'Rows.FnQueryAskNumbersInFirstSeenOrderSaid'. The frame of the row's step is turned from the seats' shell (written by program) to two slices of strings; the walks lie in the texts that are imported.
-/
import Derived.Test.Qxb6602790aQMain
import Derived.ProofKit
import Derived.OpenShut
import Derived.ShutString
import Derived.ChangeOld
import Derived.SliceStrings
namespace Go.Proofs.Qxb6602790a.fnQueryAskNumbersInFirstSeenOrder
open Go.ChangeShapes Go.WideShapes Go.ChangeAt Go.RowKit Go.Deep
set_option linter.unusedVariables false

theorem own : ownKnob Try.prog.godebug = none := by kernel_rfl
theorem laidOut : laidOutB Try.prog = true := by kernel_rfl
theorem cells9 : Try.prog.cellsOf 9 = 1 := by kernel_rfl

/-- WHAT THE WALK IS TOLD OF A LIST OF STRINGS THAT CAME IN. -/
def IsStrs (w : World) (a : Option Addr) (n c : Nat) : Prop :=
  ∃ ss, Strs w a n ss ∧ (∀ j, j < n → (ss.getD j ByteArray.empty).size ≤ 9223372036854775807) ∧ (a = none → n = 0 ∧ c = 0) ∧ n ≤ 9223372036854775807

theorem isStrs_of {H : Type} {enc : TypeId × Value → H} {w : World} {base fuel : Nat} {held : Bool} {a : Option Addr} {n c : Nat} {x : DataW H × List MemPlace}
    (h : DataW.trod enc Try.prog w base (fun _ => true) held fuel 22 [.slice a n c] = some x) : IsStrs w a n c := by
  rcases open_strings Try.underlying22 Try.underlying9 cells9 h with ⟨hcs, _⟩ | ⟨ad, len, cap, ss, hcs, _, hl, hm, hlen, _, hc, hs⟩
  · simp at hcs
    obtain ⟨rfl, rfl, rfl⟩ := hcs
    exact ⟨[], ⟨rfl, fun j hj => absurd hj (by omega)⟩, fun j hj => absurd hj (by omega), fun _ => ⟨rfl, rfl⟩, by omega⟩
  · simp at hcs
    obtain ⟨rfl, rfl, rfl⟩ := hcs
    simp at hlen
    unfold maxLen at hm hs
    have hg : ∀ j, j < n → (ss.take n).getD j ByteArray.empty = ss.getD j ByteArray.empty := fun j hj => by
      rw [List.getD_eq_getElem?_getD, List.getD_eq_getElem?_getD, List.getElem?_take, if_pos hj]
    refine ⟨ss.take n, ⟨by rw [List.length_take]; omega, fun j hj => ?_⟩, fun j hj => ?_, (fun h => by cases h), by omega⟩
    · obtain ⟨b, off, rfl, _, hc2⟩ := cells_plain (n := n) (g := fun j => .string (ss.getD j ByteArray.empty)) (fun i hi => hc i (by omega)) (by omega)
      exact ⟨b, off, rfl, fun i hi => by rw [hg i hi]; exact hc2 i hi⟩
    · rw [hg j hj, getD_eq (by omega)]
      exact hs _ (List.getElem_mem _)

theorem walk (a0 : Option Addr) (n0 c0 : Nat) (a1 : Option Addr) (n1 c1 : Nat) (w : World) (w0 : IsStrs w a0 n0 c0) (w1 : IsStrs w a1 n1 c1) :
    Calls Try.prog 3 #[.slice a0 n0 c0, .slice a1 n1 c1] w fun e w' => e = .returned (.bool true) ∧ Below w.heap.size w w' := by
  obtain ⟨s0, h0, m0, p0, k0⟩ := w0
  obtain ⟨s1, h1, m1, p1, k1⟩ := w1
  exact main_w a0 n0 c0 s0 a1 n1 c1 s1 w h0 h1 k0 k1 m0 m1 p0 p1

set_option maxRecDepth 100000 in
theorem lifted (os : Os) (started : os.Started) (H : Type) (enc : TypeId × Value → H) :
    ReturnsInHanded {} Try.checked os 3 .any (Rows.fnQueryAskNumbersInFirstSeenOrderSpec.pre6 enc Try.prog Try.f3 Rows.fnQueryAskNumbersInFirstSeenOrderRow.domain false) (Rows.fnQueryAskNumbersInFirstSeenOrderSpec.post enc Try.prog Try.f3 false true false false) := by
  refine returnsInHanded_of_change (C := Try.checked) own started (by kernel_rfl) Try.func3
    (ChangeSpec.witness6 (enc := enc) (C := Try.checked) false ⟨#[], #[.slice none 0 0, .slice none 0 0], []⟩ 8 (by kernel_rfl) (by kernel_rfl) (by kernel_rfl) (by kernel_rfl)) ?_
  intro W base args ds gs before hval0 hW hcnd _
  have hval : ∀ (j : Nat) t v, Try.f3.params[j]? = some t → args[j]? = some v → Value.okWide Try.prog W .any base t v := hval0
  have hW' := hW
  obtain ⟨p, q, hA0, hV, rfl, hfz, hnd⟩ := hW
  have hA : DataW.TrodAll enc Try.prog W 0 (fun _ => true) true Try.f3.params.toList args.toList ds p := hA0
  rw [Try.params3] at hA hval
  obtain ⟨v0, vs0, d0, ds0, p0, q0, hargs, rfl, rfl, h0, r0⟩ := trodAll_cons hA
  obtain ⟨v1, vs1, d1, ds1, p1, q1, rfl, rfl, rfl, h1, r1⟩ := trodAll_cons r0
  obtain ⟨rfl, rfl, rfl⟩ := trodAll_nil r1
  obtain rfl : args = #[v0, v1] := by cases args; simp_all
  obtain ⟨rfl, rfl⟩ := trodVars_none hV
  obtain ⟨a0, len0, cap0, rfl⟩ := okWide_slice Try.underlying22 (hval 0 22 v0 rfl rfl)
  have k0 := h0
  have lt0 : ∀ x ∈ p0, x.block < W.heap.size := by obtain ⟨m, hm⟩ := k0; exact DataW.trod_lt m _ _ _ hm
  have w0 : IsStrs W a0 len0 cap0 := by
    obtain ⟨fuel, hf⟩ := h0
    exact isStrs_of (by simpa [Value.cells] using hf)
  obtain ⟨a1, len1, cap1, rfl⟩ := okWide_slice Try.underlying22 (hval 1 22 v1 rfl rfl)
  have k1 := h1
  have lt1 : ∀ x ∈ p1, x.block < W.heap.size := by obtain ⟨m, hm⟩ := k1; exact DataW.trod_lt m _ _ _ hm
  have w1 : IsStrs W a1 len1 cap1 := by
    obtain ⟨fuel, hf⟩ := h1
    exact isStrs_of (by simpa [Value.cells] using hf)
  clear hA0 hval0
  refine (walk a0 len0 cap0 a1 len1 cap1 W w0 w1).mono fun e W' ⟨he, bel⟩ => ?_
  subst he
  exact ⟨_, rfl, _, _, _, [], _, [], hW', trodAll_mk1 (shut_bool Try.underlying4 _), (trodAll_cons_mk (Below.trod laidOut (by kernel_rfl) (of_decide_eq_true (by kernel_rfl)) k0 bel lt0) (trodAll_cons_mk (Below.trod laidOut (by kernel_rfl) (of_decide_eq_true (by kernel_rfl)) k1 bel lt1) trodAll_mk0)), rfl, bel.frame _, fun h => by cases h⟩

theorem over : Rows.fnQueryAskNumbersInFirstSeenOrderRow.holds Try.pinned (OpenSpec.ofChange Rows.fnQueryAskNumbersInFirstSeenOrderSpec) :=
  OpenClaim.holds_of_wide 3 Try.f3 rfl rfl rfl rfl rfl rfl rfl ⟨rfl, rfl, rfl, rfl, rfl⟩ rfl rfl rfl rfl rfl (by kernel_rfl) Try.func3 (by kernel_rfl)
    (of_decide_eq_true (by kernel_rfl)) (by unfold Func.isWrapper; first | (rw [if_pos (by decide +kernel)]; kernel_rfl) | (rw [if_neg (by decide +kernel)]; exact ⟨rfl, rfl⟩))
    (fun os started H enc _ => lifted os started H enc)

/-- THE STATEMENT -/
theorem proved : Rows.FnQueryAskNumbersInFirstSeenOrderSaid := over
#print axioms proved
end Go.Proofs.Qxb6602790a.fnQueryAskNumbersInFirstSeenOrder
