import Derived.Test.Qxb6602790aSort0
import Derived.Test.Qxb6602790aRows
import Derived.Test.Qxb6602790aQLaw
import Derived.Lib.Strings
import Derived.Lib.Walk
import Derived.CellFam
import Derived.BigGuard
namespace Go.Proofs.Qxb6602790a
open Go.RowKit Go.Deep QLaw

theorem beq_bytes (a b : ByteArray) : (a.toList == b.toList) = true ↔ a = b := by
  rw [beq_iff_eq, Lib.toList_data, Lib.toList_data]
  constructor
  · intro h; exact (data_inj _ _).1 (Array.toList_inj.1 h)
  · rintro rfl; rfl
theorem beq_bytes_false (a b : ByteArray) : (a.toList == b.toList) = false ↔ a ≠ b := by
  rw [← Bool.not_eq_true, beq_bytes]

/-- A slice of strings that can be read: no element, or its cells at plain addresses. -/
structure Strs (w : World) (p : Option Addr) (n : Nat) (ss : List ByteArray) : Prop where
  len : ss.length = n
  at_ : ∀ j, j < n → ∃ b off, p = some ⟨b, off, none⟩ ∧ ∀ i, i < n → w.cell? ⟨b, off + i, none⟩ = some (.string (ss.getD i ByteArray.empty))

/-- What lawIndex says. -/
def Found (v : ByteArray) (ss : List ByteArray) (r : Int) : Prop := (0 ≤ r ∧ v ∈ ss) ∨ (r = -1 ∧ v ∉ ss)

def NotIn (v : ByteArray) (ss : List ByteArray) (k : Nat) : Prop := v ∉ ss.take k
theorem take_succ_mem {ss : List ByteArray} {k : Nat} {v : ByteArray} (hk : k < ss.length) (h : NotIn v ss k) (hne : ss.getD k ByteArray.empty ≠ v) : NotIn v ss (k + 1) := by
  unfold NotIn
  rw [List.take_succ_eq_append_getElem hk, List.mem_append, List.mem_singleton]
  rintro (h1 | h1)
  · exact h h1
  · exact hne (by rw [List.getD_eq_getElem?_getD, List.getElem?_eq_getElem hk]; exact h1.symm)

set_option maxHeartbeats 2000000 in
set_option maxRecDepth 100000 in
theorem index_w (p : Option Addr) (n c : Nat) (ss : List ByteArray) (v : ByteArray) (w : World) (h : Strs w p n ss) (hn : n < 4611686018427387904) :
    Calls Try.prog 37 #[.slice p n c, .string v] w fun e w' => (∃ r : Int, e = .returned (.int .i64 r) ∧ Found v ss r) ∧ w' = w := by
  have H := hid h
  clear h
  go_enter Try.func37, Try.ntmps37
  go_wp2
  go_loop [8] (fun vk => ∃ k : Nat, vk = .int .i64 k ∧ k ≤ n ∧ NotIn v ss k) (fun vk => n - (intOf vk).toNat)
  case atStart => exact ⟨0, rfl, Nat.zero_le _, by simp [NotIn]⟩
  case round =>
    obtain ⟨k, rfl, hk, HK⟩ := hrel
    by_cases hlt : k < n
    · obtain ⟨b, off, rfl, hc⟩ := H.out.at_ k hlt
      have hcell := hc k hlt
      clear hc
      generalize hS : ss.getD k ByteArray.empty = s at hcell
      have HS := hid hS
      clear hS
      cases hb : (s.toList == v.toList) with
      | true =>
        go_wp2
        go_ret
        refine ⟨⟨k, rfl, .inl ⟨by omega, ?_⟩⟩, rfl⟩
        rw [← (beq_bytes s v).1 hb, ← HS.out, List.getD_eq_getElem?_getD, List.getElem?_eq_getElem (by rw [H.out.len]; exact hlt)]
        exact List.getElem_mem _
      | false =>
        go_wp2
        go_round
        case rel => exact ⟨k + 1, by go_num, by omega, take_succ_mem (by rw [H.out.len]; exact hlt) HK (by rw [HS.out]; exact (beq_bytes_false s v).1 hb)⟩
        case measure => simp [intOf]; omega
    · go_wp2
      go_ret
      refine ⟨⟨-1, rfl, .inr ⟨rfl, ?_⟩⟩, rfl⟩
      have : v ∉ ss.take k := HK
      rwa [List.take_of_length_le (by rw [H.out.len]; omega)] at this
end Go.Proofs.Qxb6602790a
