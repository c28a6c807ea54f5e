/-
  THE PROOF OF 'Rows.FnShelfAddIndexesEveryGrantSaid'. The frame of the row's step is turned from the seats' shell (written by program) to one slice of structs; the walks lie in the texts that are imported.
-/
import Derived.Test.Qxb6602790aSMain
import Derived.Test.Qxb6602790aSOpen
import Derived.ProofKit
import Derived.OpenShut
import Derived.ShutString
import Derived.ChangeOld
namespace Go.Proofs.Qxb6602790a.fnShelfAddIndexesEveryGrant
open Go.ChangeShapes Go.WideShapes Go.ChangeAt Go.RowKit Go.Deep
set_option linter.unusedVariables false

theorem own : ownKnob Try.prog.godebug = none := by kernel_rfl
theorem laidOut : laidOutB Try.prog = true := by kernel_rfl

/-- WHAT THE WALK IS TOLD OF THE LIST OF SETS THAT CAME IN. -/
def IsSets (w : World) (v : Value) : Prop :=
  ∃ (p : Option Addr) (n c : Nat) (D : Dat) (X : Adr), v = .slice p n c ∧ Reads w p n D X ∧ Counted n D ∧ (p = none → n = 0 ∧ c = 0)

theorem walk (v : Value) (w : World) (h : IsSets w v) : Calls Try.prog 7 #[v] w fun e w' => Done w e w' := by
  obtain ⟨p, n, c, D, X, rfl, h1, h2, h3⟩ := h
  exact main_w p n c D X w h1 h2 h3

set_option maxRecDepth 100000 in
theorem lifted (os : Os) (started : os.Started) (H : Type) (enc : TypeId × Value → H) :
    ReturnsInHanded {} Try.checked os 7 .any (Rows.fnShelfAddIndexesEveryGrantSpec.pre6 enc Try.prog Try.f7 Rows.fnShelfAddIndexesEveryGrantRow.domain false) (Rows.fnShelfAddIndexesEveryGrantSpec.post enc Try.prog Try.f7 false true false false) := by
  refine returnsInHanded_of_change (C := Try.checked) own started (by kernel_rfl) Try.func7
    (ChangeSpec.witness6 (enc := enc) (C := Try.checked) false ⟨#[], #[.slice none 0 0], []⟩ 8 (by kernel_rfl) (by kernel_rfl) (by kernel_rfl) (by kernel_rfl)) ?_
  intro W base args ds gs before hval0 hW hcnd _
  have hval : ∀ (j : Nat) t v, Try.f7.params[j]? = some t → args[j]? = some v → Value.okWide Try.prog W .any base t v := hval0
  have hW' := hW
  obtain ⟨p, q, hA0, hV, rfl, hfz, hnd⟩ := hW
  have hA : DataW.TrodAll enc Try.prog W 0 (fun _ => true) true Try.f7.params.toList args.toList ds p := hA0
  rw [Try.params7] at hA hval
  obtain ⟨v0, vs0, d0, ds0, p0, q0, hargs, rfl, rfl, h0, r0⟩ := trodAll_cons hA
  obtain ⟨rfl, rfl, rfl⟩ := trodAll_nil r0
  obtain rfl : args = #[v0] := by cases args; simp_all
  obtain ⟨rfl, rfl⟩ := trodVars_none hV
  obtain ⟨a0, len0, cap0, rfl⟩ := okWide_slice Try.underlying42 (hval 0 42 v0 rfl rfl)
  have k0 := h0
  have lt0 : ∀ x ∈ p0, x.block < W.heap.size := by obtain ⟨m, hm⟩ := k0; exact DataW.trod_lt m _ _ _ hm
  have w0 : IsSets W (.slice a0 len0 cap0) := by
    obtain ⟨fuel, hf⟩ := h0
    exact open_sets (v := .slice a0 len0 cap0) (by simpa [Value.cells] using hf)
  clear hA0 hval0
  refine (walk _ W w0).mono fun e W' ⟨he, bel⟩ => ?_
  subst he
  exact ⟨_, rfl, _, _, _, [], _, [], hW', trodAll_mk1 (shut_bool Try.underlying4 _), (trodAll_cons_mk (Below.trod laidOut (by kernel_rfl) (of_decide_eq_true (by kernel_rfl)) k0 bel lt0) trodAll_mk0), rfl, bel.frame _, fun h => by cases h⟩

theorem over : Rows.fnShelfAddIndexesEveryGrantRow.holds Try.pinned (OpenSpec.ofChange Rows.fnShelfAddIndexesEveryGrantSpec) :=
  OpenClaim.holds_of_wide 7 Try.f7 rfl rfl rfl rfl rfl rfl rfl ⟨rfl, rfl, rfl, rfl, rfl⟩ rfl rfl rfl rfl rfl (by kernel_rfl) Try.func7 (by kernel_rfl)
    (of_decide_eq_true (by kernel_rfl)) (by unfold Func.isWrapper; first | (rw [if_pos (by decide +kernel)]; kernel_rfl) | (rw [if_neg (by decide +kernel)]; exact ⟨rfl, rfl⟩))
    (fun os started H enc _ => lifted os started H enc)

/-- THE STATEMENT -/
theorem proved : Rows.FnShelfAddIndexesEveryGrantSaid := over
#print axioms proved
end Go.Proofs.Qxb6602790a.fnShelfAddIndexesEveryGrant
