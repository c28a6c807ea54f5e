/-
  THE PROOF OF 'Rows.FnNameLengthIsLongestNamePrefixSaid'. The frame of the row's step is the seat's shell, written by program; the walks are in Names and here.
-/
import Derived.Test.Qxb6604277aRows
import Derived.WalkKit
import Derived.ProofKit
import Derived.OpenShut
import Derived.ShutString
import Derived.Test.Qxb6604277aNames
namespace Go.Proofs.Qxb6604277a.fnNameLengthIsLongestNamePrefix
open Go.ChangeShapes Go.WideShapes Go.ChangeAt Go.RowKit
open Go.ChangeMaps (open_string shut_string)
set_option linter.unusedVariables false      -- a walk need not use every 'w<i>' (that an integer argument fits its kind)

theorem own : ownKnob Try.prog.godebug = none := by kernel_rfl

open Names

theorem bytes_no (s : ByteArray) (w : World) (h : 1048576 < s.size) (hm : s.size ≤ 9223372036854775807) : Calls Try.prog 4 #[.string s] w fun e w' => e = .returned (.bool false) ∧ w' = w := by
  go_enter Try.func4, Try.ntmps4
  go_wp2
  go_ret
  exact ⟨rfl, rfl⟩
theorem bytes_yes (s : ByteArray) (w : World) (h : s.size ≤ 1048576) : Calls Try.prog 4 #[.string s] w fun e w' => e = .returned (.bool true) ∧ w' = w := by
  go_enter Try.func4, Try.ntmps4
  go_wp2
  go_ret
  exact ⟨rfl, rfl⟩
theorem zz_any (s : ByteArray) (w : World) (hs : s.size ≤ 2097152) : Calls Try.prog 5 #[.string s] w fun e w' => (∃ m : Nat, e = .returned (.int .i64 m) ∧ Len s m) ∧ w' = w := by
  go_enter Try.func5, Try.ntmps5
  go_wp2_with fail
  refine (length_any s _ hs).mono ?_
  rintro e w1 ⟨⟨m, rfl, hl⟩, rfl⟩
  go_wp2
  go_ret
  exact ⟨⟨m, rfl, hl⟩, rfl⟩

theorem good_cut (s : ByteArray) (m j : Nat) (hm : m ≤ s.size) (hj : j < m) : good (s.extract 0 m) j = good s j := by
  have hz : (s.extract 0 m).size = m := by simp [ByteArray.size_extract]; omega
  rw [good_at _ j (by omega), good_at s j (by omega)]
  have e : (s.extract 0 m)[j]'(by omega) = s[j]'(by omega) := by simp [ByteArray.getElem_extract]
  rw [e]
theorem size_cut (s : ByteArray) (m : Nat) (hm : m ≤ s.size) : (s.extract 0 m).size = m := by simp [ByteArray.size_extract]; omega

/-! ### STEP 1: THE WALK: the Go text returns true. -/
theorem walk (a0 : ByteArray) (w0 : a0.size ≤ maxLen) (w : World) :
    Calls Try.prog 3 #[.string a0] w fun e w' => e = .returned (.bool true) ∧ Grown w w' := by
  unfold maxLen at w0
  by_cases hb : 1048576 < a0.size
  · go_enter Try.func3, Try.ntmps3
    go_wp2_with fail
    refine (bytes_no a0 _ hb w0).mono ?_
    rintro e w1 ⟨rfl, rfl⟩
    go_wp2
    go_ret
    exact ⟨rfl, Grown.refl _⟩
  · have hs : a0.size ≤ 1048576 := by omega
    clear hb w0
    go_enter Try.func3, Try.ntmps3
    go_wp2_with fail
    refine (bytes_yes a0 _ hs).mono ?_
    rintro e w1 ⟨rfl, rfl⟩
    go_wp2_with fail
    refine (zz_any a0 _ (by omega)).mono ?_
    rintro e w1 ⟨⟨m, rfl, hl⟩, rfl⟩
    have HL : Hid (Len a0 m) := hl
    have hm : m ≤ a0.size := hl.1
    clear hl
    by_cases hlt : m < a0.size
    · go_wp2_with fail
      refine (name_yes (a0.extract 0 m) _ (by rw [size_cut a0 m hm]; omega) (fun j hj => ?_)).mono ?_
      · rw [size_cut a0 m hm] at hj; rw [good_cut a0 m j hm hj]; exact HL.out.2.1 j hj
      rintro e w2 ⟨rfl, rfl⟩
      go_wp2_with fail
      refine (name_no (a0.extract 0 (m + 1)) _ (by rw [size_cut a0 (m + 1) hlt]; omega) m (by rw [size_cut a0 (m + 1) hlt]; omega) ?_ (fun j hj => ?_)).mono ?_
      · rw [good_cut a0 (m + 1) m hlt (by omega)]; exact HL.out.2.2 hlt
      · rw [good_cut a0 (m + 1) j hlt (by omega)]; exact HL.out.2.1 j hj
      rintro e w3 ⟨rfl, rfl⟩
      go_wp2
      go_ret
      exact ⟨rfl, Grown.refl _⟩
    · go_wp2_with fail
      refine (name_yes (a0.extract 0 m) _ (by rw [size_cut a0 m hm]; omega) (fun j hj => ?_)).mono ?_
      · rw [size_cut a0 m hm] at hj; rw [good_cut a0 m j hm hj]; exact HL.out.2.1 j hj
      rintro e w2 ⟨rfl, rfl⟩
      go_wp2
      go_ret
      exact ⟨rfl, Grown.refl _⟩

/-! ### THE ROW's STEP: WRITTEN OUT: LEAVE IT -/
set_option maxRecDepth 100000 in
theorem lifted (os : Os) (started : os.Started) (H : Type) (enc : TypeId × Value → H) :
    ReturnsInHanded {} Try.checked os 3 .any (Rows.fnNameLengthIsLongestNamePrefixSpec.pre6 enc Try.prog Try.f3 Rows.fnNameLengthIsLongestNamePrefixRow.domain false) (Rows.fnNameLengthIsLongestNamePrefixSpec.post enc Try.prog Try.f3 false true false false) := by
  refine returnsInHanded_of_change (C := Try.checked) own started (by kernel_rfl) Try.func3
    (ChangeSpec.witness6 (enc := enc) (C := Try.checked) false ⟨#[], #[.string ByteArray.empty], []⟩ 8 (by kernel_rfl) (by kernel_rfl) (by kernel_rfl) (by kernel_rfl)) ?_
  intro W base args ds gs before hval0 hW hcnd _
  have hval : ∀ (j : Nat) t v, Try.f3.params[j]? = some t → args[j]? = some v → Value.okWide Try.prog W .any base t v := hval0
  have hW' := hW
  obtain ⟨p, q, hA0, hV, rfl, hfz, hnd⟩ := hW
  have hA : DataW.TrodAll enc Try.prog W 0 (fun _ => true) true Try.f3.params.toList args.toList ds p := hA0
  rw [Try.params3] at hA hval
  obtain ⟨v0, vs0, d0, ds0, p0, q0, hargs, rfl, rfl, h0, r0⟩ := trodAll_cons hA
  obtain ⟨rfl, rfl, rfl⟩ := trodAll_nil r0
  obtain rfl : args = #[v0] := by cases args; simp_all
  obtain ⟨rfl, rfl⟩ := trodVars_none hV
  obtain ⟨a0, rfl, rfl, rfl, w0⟩ := open_string Try.underlying9 (hval 0 9 v0 rfl rfl) h0
  clear hA0 hval0
  simp only [List.append_nil] at hW'
  refine (walk a0 w0 W).mono fun e W' ⟨he, hg⟩ => ?_
  subst he
  exact ⟨_, rfl, post_of_same (pa := []) (pv := []) hW' (fun _ _ _ => (trodAll_cons_mk (shut_bool Try.underlying4 _) trodAll_mk0)) (fun sp _ => (trodAll_cons_mk (shut_string Try.underlying9 w0) trodAll_mk0)) (fun _ _ => rfl) rfl
    (hg.frame _) hg.2.1 (ok_one (by kernel_rfl) rfl (okWide_bool_mk Try.underlying4 _))⟩

theorem over : Rows.fnNameLengthIsLongestNamePrefixRow.holds Try.pinned (OpenSpec.ofChange Rows.fnNameLengthIsLongestNamePrefixSpec) :=
  OpenClaim.holds_of_wide 3 Try.f3 rfl rfl rfl rfl rfl rfl rfl ⟨rfl, rfl, rfl, rfl, rfl⟩ rfl rfl rfl rfl rfl (by kernel_rfl) Try.func3 (by kernel_rfl)
    (of_decide_eq_true (by kernel_rfl)) (by unfold Func.isWrapper; first | (rw [if_pos (by decide +kernel)]; kernel_rfl) | (rw [if_neg (by decide +kernel)]; exact ⟨rfl, rfl⟩))
    (fun os started H enc _ => lifted os started H enc)

/-- ████ THE STATEMENT ████ -/
theorem proved : Rows.FnNameLengthIsLongestNamePrefixSaid :=
  over
#print axioms proved
end Go.Proofs.Qxb6604277a.fnNameLengthIsLongestNamePrefix
