import Derived.Test.Qxb6602790aQSeen
namespace Go.Proofs.Qxb6602790a
open Go.RowKit Go.Deep QLaw

/-- No string is longer than 1 << 20. -/
def Short (n : Nat) (ss : List ByteArray) : Prop := n ≤ 1048576 ∧ ∀ j, j < n → (ss.getD j ByteArray.empty).size ≤ 1048576
def ShortTo (ss : List ByteArray) (k : Nat) : Prop := ∀ j, j < k → (ss.getD j ByteArray.empty).size ≤ 1048576
theorem ShortTo.succ {ss : List ByteArray} {k : Nat} (h : ShortTo ss k) (h2 : (ss.getD k ByteArray.empty).size ≤ 1048576) : ShortTo ss (k + 1) := fun j hj => by
  by_cases e : j = k
  · subst e; exact h2
  · exact h j (by omega)
def AnswersQ (e : Ending) (P : Bool → Prop) : Prop := ∃ q : Bool, e = .returned (.bool q) ∧ P q

set_option maxHeartbeats 4000000 in
set_option maxRecDepth 100000 in
theorem qbytes_w (p : Option Addr) (n c : Nat) (ss : List ByteArray) (p' : Option Addr) (n' c' : Nat) (ss' : List ByteArray) (w : World) (h : Strs w p n ss) (h' : Strs w p' n' ss') (hn : n ≤ 9223372036854775807) (hn' : n' ≤ 9223372036854775807)
    (hm : ∀ j, j < n → (ss.getD j ByteArray.empty).size ≤ 9223372036854775807) (hm' : ∀ j, j < n' → (ss'.getD j ByteArray.empty).size ≤ 9223372036854775807) :
    Calls Try.prog 8 #[.slice p n c, .slice p' n' c'] w fun e w' => AnswersQ e (fun q => q = true → Short n ss ∧ Short n' ss') ∧ w' = w := by
  have H := hid h
  have H' := hid h'
  have HM := hid hm
  have HM' := hid hm'
  clear h h' hm hm'
  by_cases h1 : 1048576 < n
  · go_enter Try.func8, Try.ntmps8
    go_wp2
    go_ret
    exact ⟨⟨false, rfl, fun h => by cases h⟩, rfl⟩
  · go_enter Try.func8, Try.ntmps8
    go_wp2
    go_loop [5, 6] (fun t i => ∃ k q : Nat, k ≤ n ∧ q ≤ 1048576 ∧ i = .int .i64 k ∧ t = .int .i64 q ∧ ShortTo ss k) (fun _ i => n - (intOf i).toNat)
    case atStart => exact ⟨0, n, Nat.zero_le _, by omega, rfl, by go_num, fun j hj => absurd hj (by omega)⟩
    case round =>
      obtain ⟨k, q, hk, hq, rfl, rfl, HJ⟩ := hrel
      by_cases hlt : k < n
      · obtain ⟨b, off, hpe, hc⟩ := H.out.at_ k hlt
        subst hpe
        have hcell := hc k hlt
        have hl := HM.out k hlt
        have HN := hid (HJ.succ (k := k))
        clear hc
        generalize ss.getD k ByteArray.empty = s at hcell hl HN
        by_cases h2 : 1048576 < s.size
        · go_wp2
          go_ret
          exact ⟨⟨false, rfl, fun h => by cases h⟩, rfl⟩
        · by_cases h3 : 1048576 < q + s.size
          · go_wp2
            go_ret
            exact ⟨⟨false, rfl, fun h => by cases h⟩, rfl⟩
          · go_wp2
            go_round
            case rel => exact ⟨k + 1, q + s.size, by omega, by omega, by go_num, by go_num, HN.out (by omega)⟩
            case measure => simp [intOf]; omega
      · by_cases h2 : 1048576 < n'
        · go_wp2
          go_ret
          exact ⟨⟨false, rfl, fun h => by cases h⟩, rfl⟩
        · by_cases h3 : 1048576 < q + n'
          · go_wp2
            go_ret
            exact ⟨⟨false, rfl, fun h => by cases h⟩, rfl⟩
          · go_wp2
            go_loop [5, 7] (fun t i => ∃ k q : Nat, k ≤ n' ∧ q ≤ 1048576 ∧ i = .int .i64 k ∧ t = .int .i64 q ∧ ShortTo ss' k) (fun _ i => n' - (intOf i).toNat)
            case atStart => exact ⟨0, q + n', Nat.zero_le _, by omega, rfl, by go_num, fun j hj => absurd hj (by omega)⟩
            case round =>
              have HJ0 : Hid (Short n ss) := ⟨by omega, fun j hj => HJ j (by omega)⟩
              clear HJ hq h3
              obtain ⟨k', q', hk', hq', rfl, rfl, HJ⟩ := hrel
              by_cases hlt' : k' < n'
              · obtain ⟨b, off, hpe, hc⟩ := H'.out.at_ k' hlt'
                subst hpe
                have hcell := hc k' hlt'
                have hl := HM'.out k' hlt'
                have HN := hid (HJ.succ (k := k'))
                clear hc
                generalize ss'.getD k' ByteArray.empty = s at hcell hl HN
                by_cases h2 : 1048576 < s.size
                · go_wp2
                  go_ret
                  exact ⟨⟨false, rfl, fun h => by cases h⟩, rfl⟩
                · by_cases h3 : 1048576 < q' + s.size
                  · go_wp2
                    go_ret
                    exact ⟨⟨false, rfl, fun h => by cases h⟩, rfl⟩
                  · go_wp2
                    go_round
                    case rel => exact ⟨k' + 1, q' + s.size, by omega, by omega, by go_num, by go_num, HN.out (by omega)⟩
                    case measure => simp [intOf]; omega
              · go_wp2
                go_ret
                exact ⟨⟨true, rfl, fun _ => ⟨HJ0.out, by omega, fun j hj => HJ j (by omega)⟩⟩, rfl⟩

def SumOf (e : Ending) : Prop := ∃ q : Nat, e = .returned (.int .i64 (q : Int)) ∧ q ≤ 4000000000000

set_option maxHeartbeats 4000000 in
set_option maxRecDepth 100000 in
theorem strBytes_w (p : Option Addr) (n c : Nat) (ss : List ByteArray) (w : World) (h : Strs w p n ss) (hS : Short n ss) :
    Calls Try.prog 9 #[.slice p n c] w fun e w' => SumOf e ∧ w' = w := by
  have H := hid h
  have HM := hid hS.2
  have hn := hS.1
  clear h hS
  go_enter Try.func9, Try.ntmps9
  go_wp2
  go_loop [3, 11] (fun t i => ∃ k q : Nat, k ≤ n ∧ i = .int .i64 k ∧ t = .int .i64 q ∧ Hid (q ≤ 16 * n + k * 1048576)) (fun _ i => n - (intOf i).toNat)
  case atStart => exact ⟨0, 16 * n, Nat.zero_le _, rfl, by go_num, by show _ ≤ _; omega⟩
  case round =>
    obtain ⟨k, q, hk, rfl, rfl, HQ⟩ := hrel
    have hq2 : q ≤ 2000000000000 := by have := HQ.out; omega
    by_cases hlt : k < n
    · obtain ⟨b, off, hpe, hc⟩ := H.out.at_ k hlt
      subst hpe
      have hcell := hc k hlt
      have hl := HM.out k hlt
      clear hc
      generalize ss.getD k ByteArray.empty = s at hcell hl
      go_wp2
      go_round
      case rel => exact ⟨k + 1, q + s.size, by omega, by go_num, by go_num, by have := HQ.out; show _ ≤ _; omega⟩
      case measure => simp [intOf]; omega
    · go_wp2
      go_ret
      exact ⟨⟨q, rfl, by omega⟩, rfl⟩

theorem Try.size9 : (Try.prog.info? 9).map (·.size) = some 1 := by kernel_rfl

/-- A copy that the law has made of its argument. -/
def CopiedS (w : World) (ss : List ByteArray) (n : Nat) (e : Ending) (w' : World) : Prop :=
  ∃ (p : Option Addr) (c : Nat), e = .returned (.slice p n c) ∧ Strs w' p n ss ∧ w.grownBy w' none ∧ ∀ b off, p = some ⟨b, off, none⟩ → w.heap.size ≤ b ∧ b < w'.heap.size

set_option maxHeartbeats 4000000 in
set_option maxRecDepth 100000 in
theorem cloneS_w (p : Option Addr) (n c : Nat) (ss : List ByteArray) (w : World) (h : Strs w p n ss) (hp : p = none → n = 0 ∧ c = 0) (hn : n ≤ 1048576) :
    Calls Try.prog 10 #[.slice p n c] w fun e w' => CopiedS w ss n e w' := by
  cases p with
  | none =>
    obtain ⟨rfl, rfl⟩ := hp rfl
    have hq := fun w => Lib.run_eql_slice_nil (P := Try.prog) w 22 9 none 0 0 0 0 Try.underlying22
    have HL := hid h.len
    clear h
    go_enter Try.func10, Try.ntmps10
    go_wp2
    go_ret
    exact ⟨none, 0, rfl, ⟨HL.out, fun j hj => absurd hj (by omega)⟩, grownBy_refl _ _, fun b off e => by cases e⟩
  | some ad =>
    have hq := fun w => Lib.run_eql_slice_nil (P := Try.prog) w 22 9 (some ad) n c 0 0 Try.underlying22
    have hmk := run_make_row' (P := Try.prog) 22 9 (.string ByteArray.empty) 16 Try.underlying22 Try.info9 rfl .i64 .i64 n (by omega) (by omega)
    have hsrc : ∀ j v, (ss.map Value.string)[j]? = some v → w.cell? (ad.add j) = some v := by
      intro j v hv
      rw [List.getElem?_map] at hv
      obtain ⟨s, hs, rfl⟩ := Option.map_eq_some_iff.1 hv
      obtain ⟨hj, e⟩ := List.getElem?_eq_some_iff.1 hs
      obtain ⟨b, off, hpe, hc⟩ := h.at_ j (by rw [← h.len]; exact hj)
      cases hpe
      rw [addr_plain, hc j (by rw [← h.len]; exact hj), getD_eq hj, e]
    have hcp := run_copy_fresh Try.prog w 22 9 (.string ByteArray.empty) n c ad (ss.map Value.string) Try.underlying22 Try.size9 (by rw [List.length_map]; exact h.len) hsrc
      (by intro v hv; obtain ⟨s, _, rfl⟩ := List.mem_map.1 hv; rfl) 3
    have HL := hid h.len
    clear h hsrc
    go_enter Try.func10, Try.ntmps10
    go_wp2
    go_ret
    refine ⟨some ⟨w.heap.size, 0, none⟩, n, rfl, ⟨HL.out, fun j hj => ⟨w.heap.size, 0, rfl, fun i hi => ?_⟩⟩, World.grownBy_alloc w _ none, fun b off e => ?_⟩
    · have hr := rowIs_of_list w 9 n (ss.map Value.string) (by rw [List.length_map]; exact HL.out) (fun i => .string (ss.getD i ByteArray.empty)) (fun i hi => by
        rw [List.getElem?_map, List.getElem?_eq_getElem (by rw [HL.out]; exact hi), getD_eq (by rw [HL.out]; exact hi)]; rfl)
      rw [Nat.zero_add]
      exact hr.cell hi
    · simp only [Option.some.injEq, Addr.mk.injEq] at e
      obtain ⟨rfl, _⟩ := e
      exact ⟨Nat.le_refl _, by rw [nblk_alloc]; omega⟩
end Go.Proofs.Qxb6602790a
