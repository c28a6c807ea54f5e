import Derived.Test.Qxb6602790aSAdd
import Derived.Test.Qxb6602790aSClone
namespace Go.Proofs.Qxb6602790a
open Go.RowKit Go.Deep SLaw

/-- The new shelf's colours. -/
def col0 (B b : Nat) : Nat := if b = B then 1 else if b = B + 1 then 2 else if b = B + 2 then 3 else 0
theorem idx_made (w : World) (V : K → Value) (ok : K → Prop) (col : Nat → Nat) (B c mb : Nat) (h : w.heap[mb]? = some (.map #[] 0)) : Idx w V ok B mb col c [] [] :=
  ⟨#[], 0, ⟨Seen.nil, (fun k hk => by cases hk), h, MapKept.stamped_empty 0, rfl, fun i k hk => by simp at hk⟩⟩

set_option maxHeartbeats 2000000 in
set_option maxRecDepth 100000 in
theorem newShelf_w (w : World) : Calls Try.prog 26 #[] w fun e w' => e = .returned (.pointer (some ⟨w.heap.size + 2, 0, none⟩)) ∧ Shelf w' w.heap.size (w.heap.size + 2) w.heap.size (w.heap.size + 1) (col0 w.heap.size) [] [] [] ∧ w.grownBy w' none := by
  have hmk := fun w => run_makeMap (P := Try.prog) 84 w
  have hmk2 := fun w => run_makeMap (P := Try.prog) 85 w
  go_enter Try.func26, Try.ntmps26
  go_wp2
  go_ret
  have e1 : (w.alloc (.map #[] 0)).heap.size = w.heap.size + 1 := nblk_alloc _ _
  have e2 : ((w.alloc (.map #[] 0)).alloc (.map #[] 0)).heap.size = w.heap.size + 2 := by rw [nblk_alloc, e1]
  have e3 : (((w.alloc (.map #[] 0)).alloc (.map #[] 0)).alloc (.cells #[.slice none 0 0, .map (some w.heap.size), .map (some (w.heap.size + 1))] 88)).heap.size = w.heap.size + 3 := by rw [nblk_alloc, e2]
  have b1 := heap_alloc_new w (.map #[] 0)
  have b2 := heap_alloc_new (w.alloc (.map #[] 0)) (.map #[] 0)
  rw [e1] at b2
  have r := World.rowIs_alloc ((w.alloc (.map #[] 0)).alloc (.map #[] 0)) #[.slice none 0 0, .map (some w.heap.size), .map (some (w.heap.size + 1))] 88 (boxF (.slice none 0 0) w.heap.size (w.heap.size + 1)) (fun i hi => by
    rcases (show i = 0 ∨ i = 1 ∨ i = 2 by simp at hi; omega) with rfl | rfl | rfl <;> rfl)
  rw [e2] at r
  refine ⟨rfl, ⟨fun b hb => ?_, ?_, ?_, ?_, ⟨.slice none 0 0, r, World.ownsRow_nil _ _ _ _, fun b hb => by cases hb⟩, ⟨[], idx_made _ _ _ _ _ _ _ ?_⟩, ⟨[], idx_made _ _ _ _ _ _ _ ?_⟩, fun b hb => ?_⟩, grownBy_alloc' (grownBy_alloc' (World.grownBy_alloc w _ none) _) _⟩
  · unfold col0; rw [if_neg (by omega), if_neg (by omega), if_neg (by omega)]
  · unfold col0; rw [if_neg (by omega), if_neg (by omega), if_pos rfl]
  · unfold col0; rw [if_pos rfl]
  · unfold col0; rw [if_neg (by omega), if_pos rfl]
  · rw [blk_alloc_lt _ _ _ (by omega), blk_alloc_lt _ _ _ (by omega)]; exact b1
  · rw [blk_alloc_lt _ _ _ (by omega)]; exact b2
  · rw [e3] at hb
    unfold col0; rw [if_neg (by omega), if_neg (by omega), if_neg (by omega)]

set_option maxHeartbeats 2000000 in
set_option maxRecDepth 100000 in
theorem makeGrant_w (t : ByteArray) (a : Bool) (p : Option Addr) (n c : Nat) (w : World) :
    Calls Try.prog 27 #[.string t, .bool a, .slice p n c] w fun e w' => e = .returned (.agg #[.string t, .bool a, .slice p n c, .bool false, .slice none 0 0, .bool false, .slice none 0 0, .bool false, .slice none 0 0, .slice none 0 0]) ∧ w.grownBy w' none := by
  go_enter Try.func27, Try.ntmps27
  go_wp2
  have hc : ∀ q, q < 10 → (w.alloc (.cells #[.string t, .bool a, .slice p n c, .bool false, .slice none 0 0, .bool false, .slice none 0 0, .bool false, .slice none 0 0, .slice none 0 0] 59)).cell? ⟨w.heap.size, q, none⟩ = #[Value.string t, .bool a, .slice p n c, .bool false, .slice none 0 0, .bool false, .slice none 0 0, .bool false, .slice none 0 0, .slice none 0 0][q]? := fun q _ => by
    rw [cell_of_row _ _ _ _ _ _ (heap_alloc_new w _)]
  have k0 := hc 0 (by omega)
  have k1 := hc 1 (by omega)
  have k2 := hc 2 (by omega)
  have k3 := hc 3 (by omega)
  have k4 := hc 4 (by omega)
  have k5 := hc 5 (by omega)
  have k6 := hc 6 (by omega)
  have k7 := hc 7 (by omega)
  have k8 := hc 8 (by omega)
  have k9 := hc 9 (by omega)
  refine bodyPost_ret (v := .agg #[.string t, .bool a, .slice p n c, .bool false, .slice none 0 0, .bool false, .slice none 0 0, .bool false, .slice none 0 0, .slice none 0 0]) (by simp [results, Try.f27, go_sem, k0, k1, k2, k3, k4, k5, k6, k7, k8, k9]) rfl ?_
  exact ⟨rfl, World.grownBy_alloc w _ none⟩

set_option maxHeartbeats 2000000 in
set_option maxRecDepth 100000 in
theorem shelfAdd_w (w : World) (B sb m1 m2 : Nat) (col : Nat → Nat) (st : List Sto) (F U : List (K × R)) (nb na dp : Int) (lp : Option Addr) (ln lc : Nat) (gp : Option Addr) (gn gc : Nat) (h : Shelf w B sb m1 m2 col st F U) (hst : st.length ≤ 4096)
    (T : Nat → ByteArray) (A : Nat → Bool) (ip : Nat → Option Addr) (inn ic : Nat → Nat) (IS : Nat → List ByteArray) (hg : Grants w col gp gn T A ip inn ic IS) (hgn : gn ≤ 4096) (hT : ∀ i, i < gn → (T i).size ≤ 1048576) (hI : ∀ i, i < gn → Short (inn i) (IS i)) (hF : ∀ i, i ≤ gn → (F ++ upF T A IS st.length i).length ≤ 8192) (hU : ∀ i, i ≤ gn → (U ++ upU T A st.length i).length ≤ 8192) :
    Calls Try.prog 28 #[.pointer (some ⟨sb, 0, none⟩), .int .i64 nb, .int .i64 na, .int .i64 dp, .slice lp ln lc, .slice gp gn gc] w fun e w' => e = .returned (.tuple #[]) ∧ Next w B sb m1 m2 col (st ++ [(⟨nb, na, dp, lp, ln, lc, gp, gn, gc⟩ : Sto)]) (F ++ upF T A IS st.length gn) (U ++ upU T A st.length gn) w' := by
  have C := hid (add_w w B sb m1 m2 col st F U nb na dp lp ln lc gp gn gc h hst T A ip inn ic IS hg hgn hT hI hF hU)
  clear h hg hT hI hF hU
  go_enter Try.func28, Try.ntmps28
  go_wp2_with fail
  refine C.out.mono ?_
  rintro e w' ⟨rfl, hn⟩
  have HN := hid hn
  clear hn
  go_wp2
  go_end0
  exact ⟨rfl, HN.out⟩
end Go.Proofs.Qxb6602790a
