import Derived.Test.Qxb6602790aKeep
namespace Go.Proofs.Qxb6602790a
open Go.RowKit Go.Deep KeepLaw

theorem i32_and63 (n : Int) : bits .and .i32 n 63 = n % 64 := by
  have h127 : (BitVec.ofInt 32 63).toNat = 2 ^ 6 - 1 := by decide
  have key : (BitVec.ofInt 32 n &&& BitVec.ofInt 32 63).toNat = (n % ((2 ^ 32 : Nat) : Int)).toNat % 2 ^ 6 := by
    rw [BitVec.toNat_and, BitVec.toNat_ofInt, h127, Nat.and_two_pow_sub_one_eq_mod]
  show IntKind.i32.wrap ((BitVec.ofInt 32 n &&& BitVec.ofInt 32 63).toNat : Nat) = n % 64
  rw [key, IntKind.wrap_i32]
  omega

set_option maxHeartbeats 1000000 in
set_option maxRecDepth 100000 in
theorem keep_bits (sv : Value) (af ab : Option Addr) (n m cf cb b bo : Nat) (F G : Nat → Int) (w : World) (hn : n ≤ 1048576) (hnm : n ≤ m) (hm : m ≤ 1048576) (hab : ab ≠ none)
    (hs : ∃ x y z, sv = .slice x y z)
    (hb : 0 < n → af = some ⟨b, 0, none⟩ ∧ w.rowIs b 40 n (fun i => .int .u64 (F i)))
    (ho : 0 < n → ab = some ⟨bo, 0, none⟩ ∧ w.rowIs bo 40 m (fun i => .int .u64 (G i))) (hne : 0 < n → b ≠ bo) :
    Calls Try.prog 39 #[.agg #[sv, .slice ab m cb], .slice af n cf] w fun e w' => e = .returned (.bool (anyNZ (fun i => bits .and .u64 (F i) (G i)) n)) ∧ (0 < n → w'.rowIs b 40 n (fun i => .int .u64 (bits .and .u64 (F i) (G i)))) ∧ w.grownBy w' (some b) := by
  have hq := fun w => run_neq_slice_nil_any (P := Try.prog) w 80 40 ab m cb 0 0 Try.underlying80
  have hsn : ab.isNone = false := by cases ab with | none => exact absurd rfl hab | some _ => rfl
  obtain ⟨x, y, z, rfl⟩ := hs
  have HB : Hid (0 < n → af = some ⟨b, 0, none⟩ ∧ w.rowIs b 40 n (fun i => .int .u64 (F i))) := hb
  have HO : Hid (0 < n → ab = some ⟨bo, 0, none⟩ ∧ w.rowIs bo 40 m (fun i => .int .u64 (G i))) := ho
  have HN : Hid (0 < n → b ≠ bo) := hne
  clear hb ho hne
  go_enter Try.func39, Try.ntmps39
  go_wp2_with fail
  refine (and_any af ab n m cf cb b bo F G _ hn hnm hm hab (fun h => ⟨(HB.out h).1, (HB.out h).2.alloc _⟩) (fun h => ⟨(HO.out h).1, (HO.out h).2.alloc _⟩) HN.out).mono ?_
  rintro e w1 ⟨rfl, hr1, hg1⟩
  have HR : Hid (0 < n → w1.rowIs b 40 n (fun i => .int .u64 (bits .and .u64 (F i) (G i)))) := hr1
  have HG : Hid (w.grownBy w1 (some b)) := grownBy_trans (World.grownBy_alloc _ _ _) hg1
  clear hr1 hg1
  go_wp2_with fail
  refine (any_any af n cf b (fun i => bits .and .u64 (F i) (G i)) _ hn (fun h => ⟨(HB.out h).1, HR.out h⟩)).mono ?_
  rintro e w2 ⟨rfl, rfl⟩
  go_wp2
  go_ret
  exact ⟨rfl, HR.out, HG.out⟩
/-- What 'word |= 1 << (s & 63)' makes of a word. -/
def orBit (a s : Int) : Int := bits .or .u64 a (IntKind.u64.wrap (2 ^ (s % 64).toNat))

set_option maxHeartbeats 2000000 in
set_option maxRecDepth 100000 in
theorem keep_scopes (sa af : Option Addr) (ns cs n cf bs b : Nat) (ss : List Int) (F : Nat → Int) (w : World) (hn : n ≤ 1048576) (hns : ns ≤ 1048576) (hss : ss.length = ns)
    (hb : 0 < n → af = some ⟨b, 0, none⟩ ∧ w.rowIs b 40 n (fun i => .int .u64 (F i)))
    (ho : 0 < ns → sa = some ⟨bs, 0, none⟩ ∧ w.rowIs bs 21 ns (fun i => .int .i32 (ss.getD i 0))) (hne : 0 < n → 0 < ns → b ≠ bs)
    (hup : Rising ss ns) (hpos : ∀ i, i < ns → 0 ≤ ss.getD i 0 ∧ ss.getD i 0 ≤ 2147483647) :
    Calls Try.prog 39 #[.agg #[.slice sa ns cs, .slice none 0 0], .slice af n cf] w fun e w' => e = .returned (.bool (anyNZ (fun i => bits .and .u64 (F i) (heldAt orBit ss i)) n)) ∧ (0 < n → w'.rowIs b 40 n (fun i => .int .u64 (bits .and .u64 (F i) (heldAt orBit ss i)))) ∧ w.grownBy w' (some b) := by
  have hq := fun w => run_neq_slice_nil_any (P := Try.prog) w 80 40 none 0 0 0 0 Try.underlying80
  have HB : Hid (0 < n → af = some ⟨b, 0, none⟩ ∧ w.rowIs b 40 n (fun i => .int .u64 (F i))) := hb
  have HO : Hid (0 < ns → sa = some ⟨bs, 0, none⟩ ∧ w.rowIs bs 21 ns (fun i => .int .i32 (ss.getD i 0))) := ho
  have HN : Hid (0 < n → 0 < ns → b ≠ bs) := hne
  have HU : Hid (Rising ss ns) := hup
  have HP : Hid (∀ i, i < ns → 0 ≤ ss.getD i 0 ∧ ss.getD i 0 ≤ 2147483647) := hpos
  have HSS : Hid (ss.length = ns) := hss
  clear hb ho hne hup hpos hss
  go_enter Try.func39, Try.ntmps39
  go_wp2
  go_loopw [5, 6, 20] (fun kept i wi wr => ∃ k q : Nat, k ≤ n ∧ q ≤ ns ∧ kept = .bool (anyNZ (fun i => bits .and .u64 (F i) (heldAt orBit ss i)) k) ∧ i = .int .i64 q ∧ wi = .int .i64 k ∧
      Hid ((0 < n → wr.rowIs b 40 n (fun i => if i < k then .int .u64 (bits .and .u64 (F i) (heldAt orBit ss i)) else .int .u64 (F i))) ∧ (w.alloc (.cells #[.slice sa ns cs, .slice none 0 0] 82)).grownBy wr (some b)
        ∧ (∀ j, j < q → ss.getD j 0 / 64 < k) ∧ (∀ j, q ≤ j → j < ns → (k : Int) ≤ ss.getD j 0 / 64))) (fun _ _ wi _ => n - (intOf wi).toNat)
  case atStart =>
    refine ⟨0, 0, Nat.zero_le _, Nat.zero_le _, rfl, rfl, rfl, fun h => ?_, grownBy_refl _ _, fun j hj => absurd hj (by omega), fun j _ hj => by have := HP.out j hj; omega⟩
    simpa using (HB.out h).2.alloc _
  case round =>
    obtain ⟨k, q, hk, hq', rfl, rfl, rfl, HR⟩ := hrel
    by_cases hlt : k < n
    · have hbox : wr.cell? ⟨w.heap.size, 0, none⟩ = some (.slice sa ns cs) :=
        HR.out.2.1.cell (a := ⟨w.heap.size, 0, none⟩) (by simp) (fun e => by have := (HB.out (by omega)).2.lt; simp at e; omega)
      go_wp2
      go_loop [6, 8] (fun i word => ∃ p : Nat, q ≤ p ∧ p ≤ ns ∧ i = .int .i64 p ∧ word = .int .u64 (heldAt orBit (ss.take p) k) ∧ Hid (∀ j, j < p → ss.getD j 0 / 64 ≤ k)) (fun i _ => ns - (intOf i).toNat)
      case atStart => exact ⟨q, Nat.le_refl _, hq', rfl, by rw [inner_start orBit ss q k (by rw [HSS.out]; exact hq') HR.out.2.2.1], fun j hj => by have := HR.out.2.2.1 j hj; omega⟩
      case round =>
        obtain ⟨p, hqp, hp, rfl, rfl, HJ⟩ := hrel
        by_cases hpl : p < ns
        · obtain ⟨rfl, hrow⟩ := HO.out (by omega)
          have hc : wr.cell? ⟨bs, p, none⟩ = some (.int .i32 (ss.getD p 0)) :=
            HR.out.2.1.cell (a := ⟨bs, p, none⟩) ((hrow.alloc _).cell hpl) (fun e => by simp at e; exact HN.out (by omega) (by omega) e.symm)
          have hx := HP.out p hpl
          clear hrow
          by_cases hw' : ss.getD p 0 / 64 = k
          · have HH : Hid (heldAt orBit (ss.take (p + 1)) k = orBit (heldAt orBit (ss.take p) k) (ss.getD p 0)) := held_hit orBit ss p (by rw [HSS.out]; exact hpl) k hw'
            have HW : Hid (ss.getD p 0 / 64 = k) := hw'
            have ht : (ss.getD p 0 / 64 == (k : Int)) = true := beq_iff_eq.2 hw'
            clear hw'
            generalize hxe : ss.getD p 0 = x at *
            have HXE : Hid (ss.getD p 0 = x) := hxe
            clear hxe
            generalize heldAt orBit (List.take p ss) ↑k = acc at *
            obtain ⟨hx0, hx1⟩ := hx
            have h63 := i32_and63 x
            go_wp2
            go_round
            case rel =>
              refine ⟨p + 1, by omega, by omega, by go_num, by rw [HH.out]; rfl, fun j hj => ?_⟩
              by_cases e : j = p
              · subst e; rw [HXE.out]; have := HW.out; omega
              · exact HJ.out j (by omega)
            case measure => simp [intOf]; omega
          · have HX : Hid (heldAt orBit (ss.take p) k = heldAt orBit ss k ∧ (∀ j, p ≤ j → j < ns → (k : Int) + 1 ≤ ss.getD j 0 / 64)) := inner_exit orBit ss ns q p k HSS.out HU.out hp HR.out.2.2.2 hqp (fun _ => hw')
            have ht : (ss.getD p 0 / 64 == (k : Int)) = false := beq_eq_false_iff_ne.2 hw'
            clear hw'
            generalize hxe : ss.getD p 0 = x at *
            have HXE : Hid (ss.getD p 0 = x) := hxe
            clear hxe
            obtain ⟨hx0, hx1⟩ := hx
            have h63 := i32_and63 x
            have hc1 : wr.cell? ⟨b, k, none⟩ = some (.int .u64 (F k)) := by have := (HR.out.1 (by omega)).cell hlt; simpa using this
            have hf1 : wr.frozen? ⟨b, k, none⟩ = false := (HR.out.1 (by omega)).frozen k
            obtain ⟨rfl, _⟩ := HB.out (by omega)
            obtain ⟨va, hva⟩ : ∃ va, va = bits .and .u64 (F k) (heldAt orBit (List.take p ss) ↑k) := ⟨_, rfl⟩
            have HV : Hid (va = bits .and .u64 (F k) (heldAt orBit ss ↑k)) := by rw [hva, HX.out.1]; rfl
            generalize hacc : heldAt orBit (List.take p ss) ↑k = acc at *
            have HAcc : Hid (heldAt orBit (List.take p ss) ↑k = acc) := hacc
            have HVA : Hid (va = bits .and .u64 (F k) acc) := hva
            have hv' : bits .and .u64 (F k) acc = va := hva.symm
            clear hacc hva
            generalize hkb : anyNZ (fun i => bits .and .u64 (F i) (heldAt orBit ss i)) k = kb at *
            have HKB : Hid (anyNZ (fun i => bits .and .u64 (F i) (heldAt orBit ss i)) k = kb) := hkb
            clear hkb
            cases kb
            all_goals
              skip
              go_wp2
              go_roundw
              case rel =>
                refine ⟨k + 1, p, by omega, hp, ?_, rfl, by go_num, fun h => ?_, ?_, fun j hj => ?_, fun j h1 h2 => ?_⟩
                · rw [anyNZ_succ, HKB.out]; first | rfl | (simp only [Bool.false_or]; rw [← HV.out])
                · refine (((HR.out.1 h).set k (.int .u64 va))).congr fun i hi => ?_
                  have := and_step k i (fun i => Value.int .u64 (bits .and .u64 (F i) (heldAt orBit ss i))) (fun i => Value.int .u64 (F i))
                  rw [HV.out]
                  exact this
                · exact grownBy_setCell HR.out.2.1 _ _
                · have := HJ.out j hj; omega
                · have := HX.out.2 j h1 h2; omega
              case measure => simp [intOf]; omega
        · have HX : Hid (heldAt orBit (ss.take p) k = heldAt orBit ss k ∧ (∀ j, p ≤ j → j < ns → (k : Int) + 1 ≤ ss.getD j 0 / 64)) := inner_exit orBit ss ns q p k HSS.out HU.out hp HR.out.2.2.2 hqp (fun h => absurd h hpl)
          have hc1 : wr.cell? ⟨b, k, none⟩ = some (.int .u64 (F k)) := by have := (HR.out.1 (by omega)).cell hlt; simpa using this
          have hf1 : wr.frozen? ⟨b, k, none⟩ = false := (HR.out.1 (by omega)).frozen k
          obtain ⟨rfl, _⟩ := HB.out (by omega)
          obtain ⟨va, hva⟩ : ∃ va, va = bits .and .u64 (F k) (heldAt orBit (List.take p ss) ↑k) := ⟨_, rfl⟩
          have HV : Hid (va = bits .and .u64 (F k) (heldAt orBit ss ↑k)) := by rw [hva, HX.out.1]; rfl
          generalize hacc : heldAt orBit (List.take p ss) ↑k = acc at *
          have HAcc : Hid (heldAt orBit (List.take p ss) ↑k = acc) := hacc
          have HVA : Hid (va = bits .and .u64 (F k) acc) := hva
          have hv' : bits .and .u64 (F k) acc = va := hva.symm
          clear hacc hva
          generalize hkb : anyNZ (fun i => bits .and .u64 (F i) (heldAt orBit ss i)) k = kb at *
          have HKB : Hid (anyNZ (fun i => bits .and .u64 (F i) (heldAt orBit ss i)) k = kb) := hkb
          clear hkb
          cases kb
          all_goals
            skip
            go_wp2
            go_roundw
            case rel =>
              refine ⟨k + 1, p, by omega, hp, ?_, rfl, by go_num, fun h => ?_, ?_, fun j hj => ?_, fun j h1 h2 => ?_⟩
              · rw [anyNZ_succ, HKB.out]; first | rfl | (simp only [Bool.false_or]; rw [← HV.out])
              · refine (((HR.out.1 h).set k (.int .u64 va))).congr fun i hi => ?_
                have := and_step k i (fun i => Value.int .u64 (bits .and .u64 (F i) (heldAt orBit ss i))) (fun i => Value.int .u64 (F i))
                rw [HV.out]
                exact this
              · exact grownBy_setCell HR.out.2.1 _ _
              · have := HJ.out j hj; omega
              · have := HX.out.2 j h1 h2; omega
            case measure => simp [intOf]; omega
    · go_wp2
      go_ret
      obtain rfl : k = n := by omega
      refine ⟨rfl, fun h => ((HR.out.1 h).congr fun i hi => ?_), grownBy_trans (World.grownBy_alloc _ _ _) HR.out.2.1⟩
      rw [if_pos hi]
end Go.Proofs.Qxb6602790a
