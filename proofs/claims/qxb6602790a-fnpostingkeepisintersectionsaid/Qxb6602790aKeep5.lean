import Derived.Test.Qxb6602790aKeep4
namespace Go.Proofs.Qxb6602790a
open Go.RowKit Go.Deep KeepLaw

/-- The rows that the law works with where there are scopes alone: 'held' holds h; k words of 'want' are laid. -/
structure FourS (w wr : World) (n B2 B3 B4 B5 k : Nat) (F h W : Nat → Int) : Prop where
  found : wr.rowIs B2 40 n (fun i => .int .u64 (F i))
  f : wr.rowIs B3 40 n (fun i => .int .u64 (F i))
  want : wr.rowIs B4 40 n (fun i => if i < k then .int .u64 (W i) else .int .u64 0)
  held : wr.rowIs B5 40 n (fun i => .int .u64 (h i))
  n23 : B2 < B3
  n34 : B3 < B4
  n45 : B4 < B5
  base : w.heap.size ≤ B2

theorem FourS.step {w wr : World} {n B2 B3 B4 B5 k : Nat} {F h W : Nat → Int} (q : FourS w wr n B2 B3 B4 B5 k F h W) :
    FourS w (wr.setCell ⟨B4, k, none⟩ (.int .u64 (W k))).drew n B2 B3 B4 B5 (k + 1) F h W :=
  have a := q.n23; have b := q.n34; have c := q.n45
  ⟨(q.found.setOther (by show B2 ≠ B4; omega) _).drew, (q.f.setOther (by show B3 ≠ B4; omega) _).drew,
    ((q.want.set k _).congr fun i _ => and_step k i (fun i => Value.int .u64 (W i)) (fun _ => Value.int .u64 0)).drew, (q.held.setOther (by show B5 ≠ B4; omega) _).drew, q.n23, q.n34, q.n45, q.base⟩

/-- A scope is laid into its word. -/
theorem FourS.hit {w wr : World} {n B2 B3 B4 B5 : Nat} {F W : Nat → Int} {ss : List Int} {k q : Nat} (hk : k < ss.length) (e : ss.getD k 0 / 64 = q)
    (h : FourS w wr n B2 B3 B4 B5 0 F (fun i => heldAt orBit (ss.take k) i) W) :
    FourS w (wr.setCell ⟨B5, q, none⟩ (.int .u64 (orBit (heldAt orBit (ss.take k) q) (ss.getD k 0)))) n B2 B3 B4 B5 0 F (fun i => heldAt orBit (ss.take (k + 1)) i) W :=
  have a := h.n23; have b := h.n34; have c := h.n45
  ⟨h.found.setOther (by show B2 ≠ B5; omega) _, h.f.setOther (by show B3 ≠ B5; omega) _, h.want.setOther (by show B4 ≠ B5; omega) _,
    (h.held.set q _).congr (fun i _ => by
      by_cases ei : i = q
      · subst ei; rw [if_pos rfl, held_hit orBit ss k hk _ e]
      · rw [if_neg ei, held_miss orBit ss k hk _ (by omega)]), h.n23, h.n34, h.n45, h.base⟩
/-- A scope that no word of found reaches. -/
theorem FourS.miss {w wr : World} {n B2 B3 B4 B5 : Nat} {F W : Nat → Int} {ss : List Int} {k : Nat} (hk : k < ss.length) (e : ∀ i : Nat, i < n → ¬ ss.getD k 0 / 64 = i)
    (h : FourS w wr n B2 B3 B4 B5 0 F (fun i => heldAt orBit (ss.take k) i) W) : FourS w wr n B2 B3 B4 B5 0 F (fun i => heldAt orBit (ss.take (k + 1)) i) W :=
  ⟨h.found, h.f, h.want, h.held.congr (fun i hi => by rw [held_miss orBit ss k hk _ (e i hi)]), h.n23, h.n34, h.n45, h.base⟩

theorem fourS_start {w w2 w3 w4 : World} {n : Nat} {F W : Nat → Int} (ss : List Int) (h1 : w.heap.size ≤ w2.heap.size)
    (r2 : w3.rowIs w2.heap.size 40 n (fun i => .int .u64 (F i))) (r3 : w4.rowIs w3.heap.size 40 n (fun i => .int .u64 (F i))) (g4 : w3.grownBy w4 none) :
    FourS w ((w4.alloc (.cells (madeCells #[.int .u64 0] n) 40)).alloc (.cells (madeCells #[.int .u64 0] n) 40)) n w2.heap.size w3.heap.size w4.heap.size (w4.heap.size + 1) 0 F (fun i => heldAt orBit (ss.take 0) i) W := by
  have hh := World.rowIs_made (w4.alloc (.cells (madeCells #[.int .u64 0] n) 40)) (.int .u64 0) n 40
  have hs : (w4.alloc (.cells (madeCells #[.int .u64 0] n) 40)).heap.size = w4.heap.size + 1 := by simp
  rw [hs] at hh
  exact ⟨((rowIs_grown r2 g4 (by simp)).alloc _).alloc _, (r3.alloc _).alloc _, ((World.rowIs_made w4 (.int .u64 0) n 40).alloc _).congr (fun i _ => by simp), hh.congr (fun i _ => by simp [heldAt]), r2.lt, r3.lt, by omega, h1⟩

theorem below_chain2 {w w1 w3 w4 : World} (g1 : w.grownBy w1 none) (g3 : w1.grownBy w3 none) (g4 : w3.grownBy w4 none) (o p : Obj) : Below w.heap.size w ((w4.alloc o).alloc p) := by
  have g := grownBy_alloc' (grownBy_alloc' (grownBy_trans (grownBy_trans g1 g3) g4) o) p
  exact ⟨g.os, g.tape, g.output, g.size, fun k hk => g.block k hk (by simp)⟩

set_option maxHeartbeats 4000000 in
set_option maxRecDepth 100000 in
theorem main_scopes (a0 a2 : Option Addr) (n0 c0 n2 c2 : Nat) (ss : List Int) (F : Nat → Int) (w : World) (hss : ss.length = n0) (hi : ∀ i, i < n0 → ss.getD i 0 ≤ 2147483647)
    (h0 : Came .i32 w a0 n0 c0 (fun i => ss.getD i 0)) (h2 : Came .u64 w a2 n2 c2 F)
    (hz : 4 * n0 + 8 * n2 ≤ 1048576) (hb0 : n0 ≤ 65536) (hb2 : n2 ≤ 65536) :
    Calls Try.prog 5 #[.slice a0 n0 c0, .slice none 0 0, .slice a2 n2 c2] w fun e w' => e = .returned (.bool true) ∧ Below w.heap.size w w' := by
  have H0 : Hid (Came .i32 w a0 n0 c0 (fun i => ss.getD i 0)) := h0
  have H2 : Hid (Came .u64 w a2 n2 c2 F) := h2
  have HSS : Hid (ss.length = n0) := hss
  have HI : Hid (∀ i, i < n0 → ss.getD i 0 ≤ 2147483647) := hi
  clear h0 h2 hss hi
  have hmk := run_make_row' (P := Try.prog) 36 40 (.int .u64 0) 8 Try.underlying36 Try.info40 rfl .i64 .i64 n2 (by omega) (by omega)
  go_enter Try.func5, Try.ntmps5
  go_wp2_with fail
  refine (bytes_yes a0 none a2 n0 c0 0 0 n2 c2 _ (by omega)).mono ?_
  rintro e w' ⟨rfl, rfl⟩
  go_wp2_with fail
  refine (domain_scopes a0 a2 n0 c0 n2 c2 ss _ (by omega) H0.out.2 H0.out.some).mono ?_
  rintro e w0 ⟨hdom, hbel⟩
  have HBd : Hid (Below w'.heap.size w' w0) := hbel
  clear hbel
  rcases hdom with ⟨rfl, hup, hp0⟩ | rfl
  case inr =>
    go_wp2
    go_ret
    exact ⟨rfl, HBd.out⟩
  have HU : Hid (Rising ss n0) := hup
  have HP : Hid (∀ i, i < n0 → 0 ≤ ss.getD i 0 ∧ ss.getD i 0 ≤ 2147483647) := fun i h => ⟨Int.le_trans (hp0 (by omega)) (rising_mono hup (Nat.zero_le i) h), HI.out i h⟩
  clear hup hp0 HI
  go_wp2_with fail
  refine (cloneI_any a0 n0 c0 (fun i => ss.getD i 0) _ (by omega) H0.out.1 (H0.out.below HBd.out).2).mono ?_
  rintro e w1 ⟨a0', c0', rfl, _, _, hrow0, hg1⟩
  have G1 : Hid (w0.grownBy w1 none) := hg1
  have R0' : Hid (0 < n0 → a0' = some ⟨w0.heap.size, 0, none⟩ ∧ w1.rowIs w0.heap.size 21 n0 (fun i => .int .i32 (ss.getD i 0))) := hrow0
  clear hg1 hrow0
  go_wp2_with fail
  refine (cloneW_nil _).mono ?_
  rintro e w1' ⟨rfl, rfl⟩
  go_wp2_with fail
  refine (cloneW_any a2 n2 c2 F _ (by omega) H2.out.1 ((H2.out.below HBd.out).grown G1.out).2).mono ?_
  rintro e w3 ⟨a2', c2', rfl, hnil2, hc2, hrow2, hg3⟩
  have G3 : Hid (w1'.grownBy w3 none) := hg3
  have R2' : Hid (0 < n2 → a2' = some ⟨w1'.heap.size, 0, none⟩ ∧ w3.rowIs w1'.heap.size 40 n2 (fun i => .int .u64 (F i))) := hrow2
  have HC2 : Hid (a2' = none → n2 = 0 ∧ c2' = 0) := fun e => ⟨(H2.out.1 (hnil2.1 e)).1, hc2 e⟩
  clear hg3 hrow2 hnil2 hc2
  go_wp2_with fail
  refine (cloneW_any a2' n2 c2' F _ (by omega) HC2.out (fun ad e j hj => ?_)).mono ?_
  · have := R2'.out (by omega)
    rw [this.1] at e; obtain rfl := Option.some.inj e
    have := this.2.cell hj
    rw [addr_plain]; simpa using this
  rintro e w4 ⟨a3', c3', rfl, _, _, hrow3, hg4⟩
  have G4 : Hid (w3.grownBy w4 none) := hg4
  have R3' : Hid (0 < n2 → a3' = some ⟨w3.heap.size, 0, none⟩ ∧ w4.rowIs w3.heap.size 40 n2 (fun i => .int .u64 (F i))) := hrow3
  clear hg4 hrow3
  have hq := fun w => run_neq_slice_nil_any (P := Try.prog) w 36 40 none 0 0 0 0 Try.underlying36
  go_wp2
  obtain ⟨W, hW⟩ : ∃ W : Nat → Int, W = fun i => bits .and .u64 (F i) (heldAt orBit ss i) := ⟨_, rfl⟩
  have HW : Hid (W = fun i => bits .and .u64 (F i) (heldAt orBit ss i)) := hW
  have HWk : Hid (∀ k : Nat, bits .and .u64 (F k) (heldAt orBit ss k) = W k) := fun k => by rw [hW]
  clear hW
  have FS : Hid (0 < n2 → FourS w' ((w4.alloc (.cells (madeCells #[.int .u64 0] n2) 40)).alloc (.cells (madeCells #[.int .u64 0] n2) 40)) n2 w1'.heap.size w3.heap.size w4.heap.size (w4.heap.size + 1) 0 F (fun i => heldAt orBit (ss.take 0) i) W) := fun h =>
    fourS_start ss (by have := HBd.out.size; have := G1.out.size; omega) (R2'.out h).2 (R3'.out h).2 G4.out
  have R0 : Hid (0 < n0 → a0' = some ⟨w0.heap.size, 0, none⟩) := fun h => (R0'.out h).1
  have R0r : Hid (0 < n0 → ((w4.alloc (.cells (madeCells #[.int .u64 0] n2) 40)).alloc (.cells (madeCells #[.int .u64 0] n2) 40)).rowIs w0.heap.size 21 n0 (fun i => .int .i32 (ss.getD i 0))) := fun h =>
    ((rowIs_grown (rowIs_grown (R0'.out h).2 G3.out (by simp)) G4.out (by simp)).alloc _).alloc _
  have R2 : Hid (0 < n2 → a2' = some ⟨w1'.heap.size, 0, none⟩) := fun h => (R2'.out h).1
  have R3 : Hid (0 < n2 → a3' = some ⟨w3.heap.size, 0, none⟩) := fun h => (R3'.out h).1
  have HB0 : Hid (Below w'.heap.size w' ((w4.alloc (.cells (madeCells #[.int .u64 0] n2) 40)).alloc (.cells (madeCells #[.int .u64 0] n2) 40))) :=
    below_chain2 (grownBy_trans (grownBy_of_below HBd.out) G1.out) G3.out G4.out _ _
  have HB3 : Hid (w'.heap.size ≤ w3.heap.size) := by have := HBd.out.size; have := G1.out.size; have := G3.out.size; show _ ≤ _; omega
  have HB4 : Hid (w'.heap.size ≤ w4.heap.size) := by have := HB3.out; have := G4.out.size; show _ ≤ _; omega
  have HB03 : Hid (0 < n0 → w0.heap.size < w3.heap.size) := fun h => by have := (R0'.out h).2.lt; have := G3.out.size; omega
  have HB34 : Hid (w3.heap.size ≤ w4.heap.size) := G4.out.size
  clear R0' R2' R3' HC2 G1 G3 G4 H0 H2 HBd
  generalize (w4.alloc (.cells (madeCells #[.int .u64 0] n2) 40)).alloc (.cells (madeCells #[.int .u64 0] n2) 40) = w5 at *
  generalize w0.heap.size = B0 at *
  generalize w1'.heap.size = B2 at *
  generalize w3.heap.size = B3 at *
  generalize w4.heap.size = B4 at *
  -- the scopes are laid into 'held'
  go_loopw [90] (fun i wr => ∃ k : Nat, k ≤ n0 ∧ i = .int .i64 k ∧ Hid (0 < n2 → FourS w' wr n2 B2 B3 B4 (B4 + 1) 0 F (fun i => heldAt orBit (ss.take k) i) W) ∧ Hid (0 < n0 → wr.rowIs B0 21 n0 (fun i => .int .i32 (ss.getD i 0))) ∧ Hid (Below w'.heap.size w' wr)) (fun i _ => n0 - (intOf i).toNat)
  case atStart => exact ⟨0, Nat.zero_le _, rfl, FS.out, R0r.out, HB0.out⟩
  case round =>
    clear FS R0r HB0
    obtain ⟨k, hk, rfl, HF, HR0, HB⟩ := hrel
    by_cases hlt : k < n0
    · obtain rfl := R0.out (by omega)
      have c0 := (HR0.out (by omega)).cell hlt
      obtain ⟨hx0, hx1⟩ := HP.out k hlt
      have HX : Hid (ss.getD k 0 = ss.getD k 0) := rfl
      obtain ⟨q, hq64⟩ : ∃ q : Nat, ss.getD k 0 / 64 = q := ⟨(ss.getD k 0 / 64).toNat, by omega⟩
      have HQ : Hid (ss.getD k 0 / 64 = q) := hq64
      obtain ⟨x, hx⟩ : ∃ x, x = ss.getD k 0 := ⟨_, rfl⟩
      have HXE : Hid (x = ss.getD k 0) := hx
      rw [← hx] at hx0 hx1 hq64
      simp only [← hx] at c0
      clear hx
      have h63 := i32_and63 x
      have hki : (k : Int) < (n0 : Int) := by omega
      by_cases hqn : q < n2
      · obtain ⟨hold, hhold⟩ : ∃ hold, hold = heldAt orBit (ss.take k) q := ⟨_, rfl⟩
        have HH : Hid (hold = heldAt orBit (ss.take k) q) := hhold
        have c5 : wr.cell? ⟨B4 + 1, q, none⟩ = some (.int .u64 hold) := by rw [hhold]; exact (HF.out (by omega)).held.cell hqn
        have f5 := (HF.out (by omega)).held.frozen q
        clear hhold
        have hqi : (q : Int) < (n2 : Int) := by omega
        go_wp2
        go_roundw
        case rel =>
          refine ⟨k + 1, by omega, by go_num, fun h => ?_, fun h => (HR0.out h).setOther (by show B0 ≠ B4 + 1; have := HB03.out h; have := HB34.out; omega) _, HB.out.setCell (by show w'.heap.size ≤ B4 + 1; have := HB4.out; omega) _⟩
          have := (HF.out h).hit (by rw [HSS.out]; exact hlt) HQ.out
          rw [← HH.out, ← HXE.out] at this
          exact this
        case measure => simp [intOf]; omega
      · go_wp2
        go_roundw
        case rel => exact ⟨k + 1, by omega, by go_num, fun h => (HF.out h).miss (by rw [HSS.out]; exact hlt) (fun i hi => by have := HQ.out; omega), HR0.out, HB.out⟩
        case measure => simp [intOf]; omega
    · have HF1 : Hid (0 < n2 → FourS w' wr n2 B2 B3 B4 (B4 + 1) 0 F (fun i => heldAt orBit ss i) W) := fun h => by
        have := HF.out h
        rw [List.take_of_length_le (by have := HSS.out; omega)] at this
        exact this
      clear HF
      go_wp2
      go_loopw [114] (fun i wr2 => ∃ k : Nat, k ≤ n2 ∧ i = .int .i64 k ∧ Hid (0 < n2 → FourS w' wr2 n2 B2 B3 B4 (B4 + 1) k F (fun i => heldAt orBit ss i) W) ∧ Hid (0 < n0 → wr2.rowIs B0 21 n0 (fun i => .int .i32 (ss.getD i 0))) ∧ Hid (Below w'.heap.size w' wr2)) (fun i _ => n2 - (intOf i).toNat)
      case atStart => exact ⟨0, Nat.zero_le _, rfl, HF1.out, HR0.out, HB.out⟩
      case round =>
        clear HF1 HR0 HB hk hlt
        obtain ⟨k, hk, rfl, HF, HR0, HB⟩ := hrel
        by_cases hlt : k < n2
        · obtain rfl := R2.out (by omega)
          have c1 := (HF.out (by omega)).held.cell hlt
          have c2 := (HF.out (by omega)).found.cell hlt
          have c3 := (HF.out (by omega)).want.cell hlt
          have f3 := (HF.out (by omega)).want.frozen k
          simp at c3
          have hki : (k : Int) < (n2 : Int) := by omega
          have hwk := HWk.out k
          obtain ⟨hold, hhold⟩ : ∃ hold, hold = heldAt orBit ss k := ⟨_, rfl⟩
          rw [← hhold] at hwk
          simp only [← hhold] at c1
          clear hhold
          go_wp2
          go_region
          go_wp2
          go_roundw
          case rel => exact ⟨k + 1, by omega, by go_num, fun h => (HF.out h).step, fun h => ((HR0.out h).setOther (by show B0 ≠ B4; have := HB03.out h; have := HB34.out; omega) _).drew, (HB.out.setCell (by exact HB4.out) _).drew⟩
          case measure => simp [intOf]; omega
        · rw [show k = n2 from by omega] at HF
          go_wp2
          -- is any word left?
          go_loop [15, 132] (fun wa i => ∃ k : Nat, k ≤ n2 ∧ i = .int .i64 k ∧ wa = .bool (anyNZ W k)) (fun _ i => n2 - (intOf i).toNat)
          case atStart => exact ⟨0, Nat.zero_le _, rfl, rfl⟩
          case round =>
            obtain ⟨k, hk, rfl, rfl⟩ := hrel
            have HS : Hid (anyNZ W (k + 1) = (anyNZ W k || W k != 0)) := anyNZ_succ W k
            by_cases hlt : k < n2
            · have hc := (HF.out (by omega)).want.cell hlt
              simp only [hlt, if_true] at hc
              have hki : (k : Int) < (n2 : Int) := by omega
              by_cases hz0 : W k = 0
              · have hzb : (W k != 0) = false := by simp [hz0]
                have HZ : Hid (W k = 0) := hz0
                clear hz0
                go_wp2
                go_round
                case rel => exact ⟨k + 1, by omega, by go_num, by rw [HS.out, HZ.out]; simp⟩
                case measure => simp [intOf]; omega
              · have hzb : (W k != 0) = true := by simp [hz0]
                have HZ : Hid (¬ W k = 0) := hz0
                clear hz0
                go_wp2
                go_round
                case rel => exact ⟨k + 1, by omega, by go_num, by rw [HS.out, bne_iff_ne.2 HZ.out]; simp⟩
                case measure => simp [intOf]; omega
            · obtain rfl : k = n2 := by omega
              go_wp2_with fail
              refine (zzkeep_scopes a0' a3' n0 c0' k c3' B0 B3 ss F _ (by omega) (by omega) HSS.out (fun h => ⟨R3.out h, (HF.out h).f⟩) (fun h => ⟨R0.out h, HR0.out h⟩) (fun h h' => by have := HB03.out h'; omega) HU.out HP.out).mono ?_
              rintro e w6 ⟨rfl, hr6, hg6⟩
              have HF6 : Hid (0 < k → w6.rowIs B3 40 k (fun i => .int .u64 (W i)) ∧ w6.rowIs B4 40 k (fun i => .int .u64 (W i))) := fun h =>
                ⟨by rw [HW.out]; exact hr6 h, rowIs_grown ((HF.out h).want.congr fun i hi => by rw [if_pos hi]) hg6 (by have := (HF.out h).n34; intro e; simp at e; omega)⟩
              have HB6 : Hid (Below w'.heap.size w' w6) := HB.out.grown hg6 HB.out.size (fun r hr => by cases hr; exact HB3.out)
              have HWA : Hid (anyNZ (fun i => bits .and .u64 (F i) (heldAt orBit ss i)) k = anyNZ W k) := by rw [HW.out]; rfl
              clear hr6 hg6
              generalize hkb : anyNZ W k = kb at *
              have hkb2 := HWA.out
              clear hkb
              go_wp2
              go_loopw [150] (fun i wx => ∃ j : Nat, j ≤ k ∧ i = .int .i64 j ∧ Hid (w6.grownBy wx none)) (fun i _ => k - (intOf i).toNat)
              case atStart => exact ⟨0, Nat.zero_le _, rfl, grownBy_refl _ _⟩
              case round =>
                obtain ⟨j, hj, rfl, HA⟩ := hrel
                rename_i wy _ _
                by_cases hlt2 : j < k
                · obtain rfl := R3.out (by omega)
                  have c1 := (rowIs_grown (HF6.out (by omega)).1 HA.out (by simp)).cell hlt2
                  have c2 := (rowIs_grown (HF6.out (by omega)).2 HA.out (by simp)).cell hlt2
                  have hji : (j : Int) < (k : Int) := by omega
                  go_wp2
                  go_region
                  go_wp2
                  go_roundw
                  case rel => exact ⟨j + 1, by omega, by go_num, grownBy_drew HA.out⟩
                  case measure => simp [intOf]; omega
                · go_wp2
                  go_ret
                  exact ⟨rfl, HB6.out.grown HA.out HB6.out.size (fun r hr => by cases hr)⟩
end Go.Proofs.Qxb6602790a
