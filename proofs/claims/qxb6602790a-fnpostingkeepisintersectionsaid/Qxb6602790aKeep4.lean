import Derived.Test.Qxb6602790aKeep3
namespace Go.Proofs.Qxb6602790a
open Go.RowKit Go.Deep KeepLaw

/-- What the walk is told of a slice of numbers that came in. -/
def Came (k : IntKind) (w : World) (a : Option Addr) (n c : Nat) (f : Nat → Int) : Prop :=
  (a = none → n = 0 ∧ c = 0) ∧ ∀ ad, a = some ad → ∀ j, j < n → w.cell? (ad.add j) = some (.int k (f j))

theorem Came.some {k : IntKind} {w : World} {a : Option Addr} {n c : Nat} {f : Nat → Int} (h : Came k w a n c f) (hn : 0 < n) : ∃ ad, a = .some ad := by
  cases a with
  | none => have := (h.1 rfl).1; omega
  | some ad => exact ⟨ad, rfl⟩

theorem Came.grown {k : IntKind} {w w' : World} {a : Option Addr} {n c : Nat} {f : Nat → Int} (h : Came k w a n c f) (hg : w.grownBy w' none) : Came k w' a n c f :=
  ⟨h.1, fun ad e j hj => hg.cell (h.2 ad e j hj) (by simp)⟩

theorem Came.below {k : IntKind} {w w' : World} {a : Option Addr} {n c : Nat} {f : Nat → Int} (h : Came k w a n c f) (hg : Below w.heap.size w w') : Came k w' a n c f :=
  ⟨h.1, fun ad e j hj => (hg.cell (World.block_lt_of_cell? w _ (h.2 ad e j hj))).trans (h.2 ad e j hj)⟩

theorem below_grown {B : Nat} {w w1 w2 : World} {r : Nat} (h : Below B w w1) (hg : w1.grownBy w2 (some r)) (hB : B ≤ w1.heap.size) (hr : B ≤ r) : Below B w w2 := h.grown hg hB (fun k hk => by cases hk; exact hr)

/-- The four rows that the law works with, when k words of 'want' are laid. -/
structure Four (w wr : World) (n m B1 B2 B3 B4 k : Nat) (F G W : Nat → Int) : Prop where
  bits : wr.rowIs B1 40 m (fun i => .int .u64 (G i))
  found : wr.rowIs B2 40 n (fun i => .int .u64 (F i))
  f : wr.rowIs B3 40 n (fun i => .int .u64 (F i))
  want : wr.rowIs B4 40 n (fun i => if i < k then .int .u64 (W i) else .int .u64 0)
  n12 : B1 < B2
  n23 : B2 < B3
  n34 : B3 < B4
  base : w.heap.size ≤ B1

theorem Four.step {w wr : World} {n m B1 B2 B3 B4 k : Nat} {F G W : Nat → Int} (h : Four w wr n m B1 B2 B3 B4 k F G W) :
    Four w (wr.setCell ⟨B4, k, none⟩ (.int .u64 (W k))).drew n m B1 B2 B3 B4 (k + 1) F G W :=
  have a := h.n12; have b := h.n23; have c := h.n34
  ⟨(h.bits.setOther (by show B1 ≠ B4; omega) _).drew, (h.found.setOther (by show B2 ≠ B4; omega) _).drew, (h.f.setOther (by show B3 ≠ B4; omega) _).drew,
    ((h.want.set k _).congr fun i _ => and_step k i (fun i => Value.int .u64 (W i)) (fun _ => Value.int .u64 0)).drew, h.n12, h.n23, h.n34, h.base⟩

theorem four_start {w w1 w2 w3 w4 : World} {n m : Nat} {F G W : Nat → Int} (_hn : 0 < n) (h1 : w.heap.size ≤ w1.heap.size)
    (r1 : w2.rowIs w1.heap.size 40 m (fun i => .int .u64 (G i))) (r2 : w3.rowIs w2.heap.size 40 n (fun i => .int .u64 (F i))) (r3 : w4.rowIs w3.heap.size 40 n (fun i => .int .u64 (F i)))
    (g3 : w2.grownBy w3 none) (g4 : w3.grownBy w4 none) :
    Four w (w4.alloc (.cells (madeCells #[.int .u64 0] n) 40)) n m w1.heap.size w2.heap.size w3.heap.size w4.heap.size 0 F G W :=
  ⟨((rowIs_grown (rowIs_grown r1 g3 (by simp)) g4 (by simp)).alloc _), ((rowIs_grown r2 g4 (by simp)).alloc _), r3.alloc _, (World.rowIs_made w4 (.int .u64 0) n 40).congr (fun i _ => by simp),
    r1.lt, r2.lt, r3.lt, h1⟩
theorem below_chain {w w1 w2 w3 w4 : World} (g1 : w.grownBy w1 none) (g2 : w1.grownBy w2 none) (g3 : w2.grownBy w3 none) (g4 : w3.grownBy w4 none) (o : Obj) : Below w.heap.size w (w4.alloc o) := by
  have g := grownBy_alloc' (grownBy_trans (grownBy_trans (grownBy_trans g1 g2) g3) g4) o
  exact ⟨g.os, g.tape, g.output, g.size, fun k hk => g.block k hk (by simp)⟩

set_option maxHeartbeats 4000000 in
set_option maxRecDepth 100000 in
theorem main_bits (a0 a1 a2 : Option Addr) (n0 c0 n1 c1 n2 c2 : Nat) (S G F : Nat → Int) (w : World)
    (h0 : Came .i32 w a0 n0 c0 S) (h1 : Came .u64 w a1 n1 c1 G) (h2 : Came .u64 w a2 n2 c2 F)
    (ha : a1 ≠ none) (hle : n2 ≤ n1) (hz : 4 * n0 + 8 * n1 + 8 * n2 ≤ 1048576) (hb0 : n0 ≤ 65536) (hb1 : n1 ≤ 65536) (hb2 : n2 ≤ 65536) :
    Calls Try.prog 5 #[.slice a0 n0 c0, .slice a1 n1 c1, .slice a2 n2 c2] w fun e w' => e = .returned (.bool true) ∧ Below w.heap.size w w' := by
  have H0 : Hid (Came .i32 w a0 n0 c0 S) := h0
  have H1 : Hid (Came .u64 w a1 n1 c1 G) := h1
  have H2 : Hid (Came .u64 w a2 n2 c2 F) := h2
  clear h0 h1 h2
  have hmk := run_make_row' (P := Try.prog) 36 40 (.int .u64 0) 8 Try.underlying36 Try.info40 rfl .i64 .i64 n2 (by omega) (by omega)
  go_enter Try.func5, Try.ntmps5
  go_wp2_with fail
  refine (bytes_yes a0 a1 a2 n0 c0 n1 c1 n2 c2 _ (by omega)).mono ?_
  rintro e w' ⟨rfl, rfl⟩
  go_wp2_with fail
  refine (domain_bits a0 a1 a2 n0 c0 n1 c1 n2 c2 _ ha).mono ?_
  rintro e w' ⟨rfl, rfl⟩
  go_wp2_with fail
  refine (cloneI_any a0 n0 c0 S _ (by omega) H0.out.1 H0.out.2).mono ?_
  rintro e w1 ⟨a0', c0', rfl, _, _, _, hg1⟩
  have G1 : Hid (w'.grownBy w1 none) := hg1
  clear hg1
  go_wp2_with fail
  refine (cloneW_any a1 n1 c1 G _ (by omega) H1.out.1 (H1.out.grown G1.out).2).mono ?_
  rintro e w2 ⟨a1', c1', rfl, hnil1, _, hrow1, hg2⟩
  have G2 : Hid (w1.grownBy w2 none) := hg2
  have R1' : Hid (0 < n1 → a1' = some ⟨w1.heap.size, 0, none⟩ ∧ w2.rowIs w1.heap.size 40 n1 (fun i => .int .u64 (G i))) := hrow1
  have ha1 : a1' ≠ none := fun e => ha (hnil1.1 e)
  clear hg2 hrow1 hnil1
  go_wp2_with fail
  refine (cloneW_any a2 n2 c2 F _ (by omega) H2.out.1 ((H2.out.grown G1.out).grown G2.out).2).mono ?_
  rintro e w3 ⟨a2', c2', rfl, hnil2, hc2, hrow2, hg3⟩
  have G3 : Hid (w2.grownBy w3 none) := hg3
  have R2' : Hid (0 < n2 → a2' = some ⟨w2.heap.size, 0, none⟩ ∧ w3.rowIs w2.heap.size 40 n2 (fun i => .int .u64 (F i))) := hrow2
  have HC2 : Hid (a2' = none → n2 = 0 ∧ c2' = 0) := fun e => ⟨(H2.out.1 (hnil2.1 e)).1, hc2 e⟩
  clear hg3 hrow2 hnil2 hc2
  go_wp2_with fail
  refine (cloneW_any a2' n2 c2' F _ (by omega) HC2.out (fun ad e j hj => ?_)).mono ?_
  · have := R2'.out (by omega)
    rw [this.1] at e; obtain rfl := Option.some.inj e
    have := this.2.cell hj
    rw [addr_plain]; simpa using this
  rintro e w4 ⟨a3', c3', rfl, _, _, hrow3, hg4⟩
  have G4 : Hid (w3.grownBy w4 none) := hg4
  have R3' : Hid (0 < n2 → a3' = some ⟨w3.heap.size, 0, none⟩ ∧ w4.rowIs w3.heap.size 40 n2 (fun i => .int .u64 (F i))) := hrow3
  clear hg4 hrow3
  have hq := fun w => run_neq_slice_nil_any (P := Try.prog) w 36 40 a1' n1 c1' 0 0 Try.underlying36
  have hsn : a1'.isNone = false := by cases a1' with | none => exact absurd rfl ha1 | some _ => rfl
  go_wp2
  obtain ⟨W, hW⟩ : ∃ W : Nat → Int, W = fun i => bits .and .u64 (F i) (G i) := ⟨_, rfl⟩
  have HW : Hid (W = fun i => bits .and .u64 (F i) (G i)) := hW
  have HWk : Hid (∀ k, bits .and .u64 (F k) (G k) = W k) := fun k => by rw [hW]
  clear hW
  have FS : Hid (0 < n2 → Four w' (w4.alloc (.cells (madeCells #[.int .u64 0] n2) 40)) n2 n1 w1.heap.size w2.heap.size w3.heap.size w4.heap.size 0 F G W) := fun h =>
    four_start (by omega) G1.out.size (R1'.out (by omega)).2 (R2'.out h).2 (R3'.out h).2 G3.out G4.out
  have R1 : Hid (0 < n1 → a1' = some ⟨w1.heap.size, 0, none⟩) := fun h => (R1'.out h).1
  have R2 : Hid (0 < n2 → a2' = some ⟨w2.heap.size, 0, none⟩) := fun h => (R2'.out h).1
  have R3 : Hid (0 < n2 → a3' = some ⟨w3.heap.size, 0, none⟩) := fun h => (R3'.out h).1
  have HB0 : Hid (Below w'.heap.size w' (w4.alloc (.cells (madeCells #[.int .u64 0] n2) 40))) := below_chain G1.out G2.out G3.out G4.out _
  have HB3 : Hid (w'.heap.size ≤ w3.heap.size) := by have := G1.out.size; have := G2.out.size; have := G3.out.size; show _ ≤ _; omega
  have HB4 : Hid (w'.heap.size ≤ w4.heap.size) := by have := HB3.out; have := G4.out.size; show _ ≤ _; omega
  clear R1' R2' R3' HC2 G1 G2 G3 G4 H0 H1 H2
  generalize w4.alloc (.cells (madeCells #[.int .u64 0] n2) 40) = w5 at *
  generalize w1.heap.size = B1 at *
  generalize w2.heap.size = B2 at *
  generalize w3.heap.size = B3 at *
  generalize w4.heap.size = B4 at *
  go_loopw [69] (fun i wr => ∃ k : Nat, k ≤ n2 ∧ i = .int .i64 k ∧ Hid (0 < n2 → Four w' wr n2 n1 B1 B2 B3 B4 k F G W) ∧ Hid (Below w'.heap.size w' wr)) (fun i _ => n2 - (intOf i).toNat)
  case atStart => exact ⟨0, Nat.zero_le _, rfl, FS.out, HB0.out⟩
  case round =>
    obtain ⟨k, hk, rfl, HF, HB⟩ := hrel
    by_cases hlt : k < n2
    · obtain rfl := R1.out (by omega)
      obtain rfl := R2.out (by omega)
      have c1 := (HF.out (by omega)).bits.cell (i := k) (by omega)
      have c2 := (HF.out (by omega)).found.cell hlt
      have c3 : wr.cell? ⟨B4, k, none⟩ = some (.int .u64 0) := by have := (HF.out (by omega)).want.cell hlt; simpa using this
      have f3 := (HF.out (by omega)).want.frozen k
      have hki : (k : Int) < (n2 : Int) := by omega
      have hki1 : (k : Int) < (n1 : Int) := by omega
      have hwk := HWk.out k
      go_wp2
      go_region
      go_wp2
      go_roundw
      case rel => exact ⟨k + 1, by omega, by go_num, fun h => (HF.out h).step, (HB.out.setCell (by exact HB4.out) _).drew⟩
      case measure => simp [intOf]; omega
    · have HF0 : Hid (0 < n2 → Four w' wr n2 n1 B1 B2 B3 B4 n2 F G W) := by have e : k = n2 := by omega
                                                                            rw [e] at HF; exact HF
      clear HF
      have HF := HF0
      clear HF0
      go_wp2
      -- is any word left?
      go_loop [15, 132] (fun wa i => ∃ k : Nat, k ≤ n2 ∧ i = .int .i64 k ∧ wa = .bool (anyNZ W k)) (fun _ i => n2 - (intOf i).toNat)
      case atStart => exact ⟨0, Nat.zero_le _, rfl, rfl⟩
      case round =>
        obtain ⟨k, hk, rfl, rfl⟩ := hrel
        have HS : Hid (anyNZ W (k + 1) = (anyNZ W k || W k != 0)) := anyNZ_succ W k
        by_cases hlt : k < n2
        · have hc : wr.cell? ⟨B4, k, none⟩ = some (.int .u64 (W k)) := by have := (HF.out (by omega)).want.cell hlt; simpa [hlt] using this
          have hki : (k : Int) < (n2 : Int) := by omega
          by_cases hz0 : W k = 0
          · have hzb : (W k != 0) = false := by simp [hz0]
            have HZ : Hid (W k = 0) := hz0
            clear hz0
            go_wp2
            go_round
            case rel => exact ⟨k + 1, by omega, by go_num, by rw [HS.out, HZ.out]; simp⟩
            case measure => simp [intOf]; omega
          · have hzb : (W k != 0) = true := by simp [hz0]
            have HZ : Hid (¬ W k = 0) := hz0
            clear hz0
            go_wp2
            go_round
            case rel => exact ⟨k + 1, by omega, by go_num, by rw [HS.out, bne_iff_ne.2 HZ.out]; simp⟩
            case measure => simp [intOf]; omega
        · obtain rfl : k = n2 := by omega
          go_wp2_with fail
          refine (zzkeep_bits a0' n0 c0' a3' a1' k n1 c3' c1' B3 B1 F G _ (by omega) hle (by omega) ha1 (fun h => ⟨R3.out h, (HF.out h).f⟩) (fun h => ⟨R1.out (by omega), (HF.out h).bits⟩) (fun h => by have := (HF.out h).n12; have := (HF.out h).n23; omega)).mono ?_
          rintro e w6 ⟨rfl, hr6, hg6⟩
          have HF6 : Hid (0 < k → w6.rowIs B3 40 k (fun i => .int .u64 (W i)) ∧ w6.rowIs B4 40 k (fun i => .int .u64 (W i))) := fun h =>
            ⟨by rw [HW.out]; exact hr6 h, rowIs_grown ((HF.out h).want.congr fun i hi => by rw [if_pos hi]) hg6 (by have := (HF.out h).n34; intro e; simp at e; omega)⟩
          have HB6 : Hid (Below w'.heap.size w' w6) := HB.out.grown hg6 HB.out.size (fun r hr => by cases hr; exact HB3.out)
          have HWA : Hid (anyNZ (fun i => bits .and .u64 (F i) (G i)) k = anyNZ W k) := by rw [HW.out]; rfl
          clear hr6 hg6
          generalize hkb : anyNZ W k = kb at *
          have hkb2 := HWA.out
          clear hkb
          go_wp2
          go_loopw [150] (fun i wx => ∃ j : Nat, j ≤ k ∧ i = .int .i64 j ∧ Hid (w6.grownBy wx none)) (fun i _ => k - (intOf i).toNat)
          case atStart => exact ⟨0, Nat.zero_le _, rfl, grownBy_refl _ _⟩
          case round =>
            obtain ⟨j, hj, rfl, HA⟩ := hrel
            rename_i wy _ _
            by_cases hlt2 : j < k
            · obtain rfl := R3.out (by omega)
              have c1 := (rowIs_grown (HF6.out (by omega)).1 HA.out (by simp)).cell hlt2
              have c2 := (rowIs_grown (HF6.out (by omega)).2 HA.out (by simp)).cell hlt2
              have hji : (j : Int) < (k : Int) := by omega
              go_wp2
              go_region
              go_wp2
              go_roundw
              case rel => exact ⟨j + 1, by omega, by go_num, grownBy_drew HA.out⟩
              case measure => simp [intOf]; omega
            · go_wp2
              go_ret
              exact ⟨rfl, HB6.out.grown HA.out HB6.out.size (fun r hr => by cases hr)⟩
end Go.Proofs.Qxb6602790a
