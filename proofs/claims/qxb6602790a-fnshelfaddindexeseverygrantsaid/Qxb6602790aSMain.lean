import Derived.Test.Qxb6602790aSTail3
import Derived.Deep.Cut
import Derived.Deep.RegionHeld3
namespace Go.Proofs.Qxb6602790a
open Go.RowKit Go.Deep SLaw
attribute [local go_sem ↓] Go.wp_at_zero Go.wp_at_succ

set_option maxHeartbeats 64000000 in
set_option maxRecDepth 1000000 in
theorem main_w (p : Option Addr) (n c : Nat) (D : Dat) (X : Adr) (w : World) (h : Reads w p n D X) (hc : Counted n D) (hp : p = none → n = 0 ∧ c = 0) :
    Calls Try.prog 7 #[.slice p n c] w fun e w' => Done w e w' := by
  have CB := hid (zbytes_w p n c D X w h hc)
  have HLe : Hid (Lens D n) := fun j hj i hi => (h.ids j hj i hi).len
  have H := hid h
  have HP := hid hp
  have hn0 := hc.len
  clear h hc hp
  go_enter Try.func7, Try.ntmps7
  go_wp2_with fail
  refine CB.out.mono ?_
  clear CB
  rintro e w1 ⟨⟨q, rfl, hq⟩, rfl⟩
  cases q with
  | false =>
    clear hq
    go_wp2
    go_ret
    exact ⟨rfl, Below.refl _ _⟩
  | true =>
    obtain ⟨hn, hsm⟩ := hq rfl
    have HSm := hid hsm
    clear hq hsm
    by_cases hb1 : 4096 < n
    · go_wp2
      go_ret
      exact ⟨rfl, Below.refl _ _⟩
    · go_wp2
      go_loop [3, 4, 68] (fun vg vl vj => ∃ j g l : Nat, vj = .int .i64 j ∧ vg = .int .i64 g ∧ vl = .int .i64 l ∧ j ≤ n ∧ g ≤ 4096 ∧ l ≤ 65536 ∧ Hid (g = sumTo D.gn j)) (fun _ _ vj => n - (intOf vj).toNat)
      case atStart => exact ⟨0, 0, 0, rfl, rfl, rfl, Nat.zero_le _, by omega, by omega, rfl⟩
      case round =>
        obtain ⟨j, g, l, rfl, rfl, rfl, hj, hg, hl, HG⟩ := hrel
        by_cases hlt : j < n
        · obtain ⟨b, off, hpe, _, _, _, hL, hGc⟩ := H.out.at_ j hlt
          subst hpe
          have hln := (HSm.out j hlt).1.1
          have hgn := (HSm.out j hlt).2.1
          have HGs : Hid (sumTo D.gn (j + 1) = sumTo D.gn j + D.gn j) := rfl
          generalize D.gn j = gn at *
          generalize D.ln j = ln at *
          by_cases h1 : 4096 < g + gn
          · go_wp2
            go_ret
            exact ⟨rfl, Below.refl _ _⟩
          · by_cases h2 : 65536 < l + ln
            · go_wp2
              go_ret
              exact ⟨rfl, Below.refl _ _⟩
            · go_wp2
              go_round
              case rel => exact ⟨j + 1, g + gn, l + ln, by go_num, by go_num, by go_num, by omega, by omega, by omega, by show _ = _; rw [HGs.out, ← HG.out]⟩
              case measure => simp [intOf]; omega
        · have e : j = n := by omega
          subst e
          go_wp2
          go_loop [6, 96] (fun vs vj => ∃ k s : Nat, vj = .int .i64 k ∧ vs = .int .i64 s ∧ k ≤ j ∧ s ≤ 4096 ∧ Hid (s = sumTo (idsOf D) k)) (fun _ vj => j - (intOf vj).toNat)
          case atStart => exact ⟨0, 0, rfl, rfl, Nat.zero_le _, by omega, rfl⟩
          case round =>
            obtain ⟨k, s, rfl, rfl, hk, hs, HI⟩ := hrel
            by_cases hlt : k < j
            · obtain ⟨b, off, hpe, _, _, _, _, hGc⟩ := H.out.at_ k hlt
              subst hpe
              have HGR := hid (H.out.gr k hlt)
              have hgn := (HSm.out k hlt).2.1
              have HGL := hid (HSm.out k hlt).2.2
              go_wp2
              go_loop [6, 105] (fun vs vi => ∃ i s' : Nat, vi = .int .i64 i ∧ vs = .int .i64 s' ∧ i ≤ D.gn k ∧ s' ≤ 4096 ∧ Hid (s' = s + sumTo (D.inn k) i)) (fun _ vi => D.gn k - (intOf vi).toNat)
              case atStart => exact ⟨0, s, rfl, rfl, Nat.zero_le _, by omega, rfl⟩
              case round =>
                obtain ⟨i, s', rfl, rfl, hi, hs', HI2⟩ := hrel
                by_cases hil : i < D.gn k
                · obtain ⟨b6, off6, hpe, _, _, hIc⟩ := HGR.out i hil
                  generalize hGP : X.gp k = gp at *
                  subst hpe
                  have hin := (HGL.out i hil).2.1
                  have HSs : Hid (sumTo (D.inn k) (i + 1) = sumTo (D.inn k) i + D.inn k i) := rfl
                  generalize D.inn k i = inn at *
                  by_cases h1 : 4096 < s' + inn
                  · go_wp2
                    go_ret
                    exact ⟨rfl, Below.refl _ _⟩
                  · go_wp2
                    go_round
                    case rel => exact ⟨i + 1, s' + inn, by go_num, by go_num, by omega, by omega, by show _ = _; rw [HSs.out, HI2.out]; omega⟩
                    case measure => simp [intOf]; omega
                · have e : i = D.gn k := by omega
                  go_wp2
                  go_round
                  case rel => exact ⟨k + 1, s', by go_num, by go_num, by omega, by omega, by show _ = _; rw [HI2.out, HI.out, e]; rfl⟩
                  case measure => simp [intOf]; omega
            · have e : k = j := by omega
              subst e
              have HSG := HG
              by_cases hz : 1048576 < 72 * k + 48 * g + 16 * (s + l)
              · go_wp2
                go_ret
                exact ⟨rfl, Below.refl _ _⟩
              · go_wp2
                go_loop [9, 139] (fun vz vj => ∃ j z : Nat, vj = .int .i64 j ∧ vz = .int .i64 z ∧ j ≤ k ∧ z ≤ 1048576) (fun _ vj => k - (intOf vj).toNat)
                case atStart => exact ⟨0, 72 * k + 48 * g + 16 * (s + l), rfl, by go_num, Nat.zero_le _, by omega⟩
                case round =>
                  obtain ⟨j, z, rfl, rfl, hj, hz1⟩ := hrel
                  by_cases hlt : j < k
                  · obtain ⟨b, off, hpe, _, _, _, hL, hGc⟩ := H.out.at_ j hlt
                    subst hpe
                    have HLS := hid (H.out.lic j hlt)
                    have HGR := hid (H.out.gr j hlt)
                    have HIS := hid (H.out.ids j hlt)
                    have hln := (HSm.out j hlt).1.1
                    have HLZ := hid (HSm.out j hlt).1.2
                    have hgn := (HSm.out j hlt).2.1
                    have HGL := hid (HSm.out j hlt).2.2
                    generalize X.lp j = lp at *
                    generalize X.lc j = lc at *
                    generalize X.gp j = gp at *
                    generalize X.gc j = gc at *
                    go_wp2
                    go_loop [9, 148] (fun vz vk => ∃ q z' : Nat, vk = .int .i64 q ∧ vz = .int .i64 z' ∧ q ≤ D.ln j ∧ z' ≤ 1048576 + q * 1048576) (fun _ vk => D.ln j - (intOf vk).toNat)
                    case atStart => exact ⟨0, z, rfl, rfl, Nat.zero_le _, by omega⟩
                    case round =>
                      obtain ⟨q, z1, rfl, rfl, hq, hz2⟩ := hrel
                      by_cases hql : q < D.ln j
                      · obtain ⟨b5, off5, hpe, hcc⟩ := HLS.out.at_ q hql
                        subst hpe
                        have hcell := hcc q hql
                        have hl := HLZ.out q hql
                        clear hcc
                        generalize (D.ls j).getD q ByteArray.empty = s5 at hcell hl
                        go_wp2
                        go_round
                        case rel => exact ⟨q + 1, z1 + s5.size, by go_num, by go_num, by omega, by omega⟩
                        case measure => simp [intOf]; omega
                      · clear hz hz1
                        have hz3 : z1 ≤ 2000000000000 := by omega
                        clear hz2
                        go_wp2
                        go_loop [9, 163] (fun vz vi => ∃ i z' : Nat, vi = .int .i64 i ∧ vz = .int .i64 z' ∧ i ≤ D.gn j ∧ z' ≤ 2000000000000 + i * 2000000000000) (fun _ vi => D.gn j - (intOf vi).toNat)
                        case atStart => exact ⟨0, z1, rfl, rfl, Nat.zero_le _, by omega⟩
                        case round =>
                          obtain ⟨i, z2, rfl, rfl, hi, hz4⟩ := hrel
                          by_cases hil : i < D.gn j
                          · obtain ⟨b6, off6, hpe, hT, _, hIc⟩ := HGR.out i hil
                            subst hpe
                            have HIS1 := hid (HIS.out i hil)
                            have ht := (HGL.out i hil).1
                            have hin := (HGL.out i hil).2.1
                            have HIZ := hid (HGL.out i hil).2.2
                            generalize X.ip j i = ip at *
                            generalize X.ic j i = ic at *
                            generalize D.t j i = ti at *
                            go_wp2
                            go_loop [9, 188] (fun vz vq => ∃ q z' : Nat, vq = .int .i64 q ∧ vz = .int .i64 z' ∧ q ≤ D.inn j i ∧ z' ≤ 2000000000000 + i * 2000000000000 + 1048576 + q * 1048576) (fun _ vq => D.inn j i - (intOf vq).toNat)
                            case atStart => exact ⟨0, z2 + ti.size, rfl, by go_num, Nat.zero_le _, by omega⟩
                            case round =>
                              obtain ⟨r, z3, rfl, rfl, hr, hz5⟩ := hrel
                              by_cases hrl : r < D.inn j i
                              · obtain ⟨b7, off7, hpe, hcc⟩ := HIS1.out.at_ r hrl
                                subst hpe
                                have hcell := hcc r hrl
                                have hl := HIZ.out r hrl
                                clear hcc
                                generalize (D.is j i).getD r ByteArray.empty = s7 at hcell hl
                                go_wp2
                                go_round
                                case rel => exact ⟨r + 1, z3 + s7.size, by go_num, by go_num, by omega, by omega⟩
                                case measure => simp [intOf]; omega
                              · go_wp2
                                go_round
                                case rel => exact ⟨i + 1, z3, by go_num, by go_num, by omega, by omega⟩
                                case measure => simp [intOf]; omega
                          · by_cases hzz : 1048576 < z2
                            · go_wp2
                              go_ret
                              exact ⟨rfl, Below.refl _ _⟩
                            · go_wp2
                              go_round
                              case rel => exact ⟨j + 1, z2, by go_num, by go_num, by omega, by omega⟩
                              case measure => simp [intOf]; omega
                  · have e2 : k = j := by omega
                    subst e2
                    have HTG : Hid (sumTo D.gn k ≤ 4096) := by show _ ≤ _; rw [← HG.out]; exact hg
                    have HTI : Hid (sumTo (idsOf D) k ≤ 4096) := by show _ ≤ _; rw [← HI.out]; exact hs
                    have C1 := hid (cloneSets_w p k c D X w1 H.out HP.out (by omega) HSm.out)
                    clear hz hz1 hj hlt hl
                    go_wp2_with fail
                    refine C1.out.mono ?_
                    clear C1
                    rintro e wc ⟨pc, cc, Xc, rfl, hr, hb, _⟩
                    have HR := hid hr
                    have HBc := hid hb
                    clear hr hb H HP
                    go_wp2_with fail
                    refine (newShelf_w wc).mono ?_
                    rintro e wn ⟨rfl, hsh, hgn⟩
                    have HB0 : Hid (BuiltE wc wn wc.heap.size D Xc 0) := ⟨_, [], ⟨hsh, rfl, fun j' hj' => absurd hj' (by omega), (Below.refl _ _).grown hgn (Nat.le_refl _) (fun k e => by cases e)⟩⟩
                    clear hsh hgn
                    generalize hB : wc.heap.size = B at *
                    have HBq := hid hB
                    clear hB
                    go_wp2_with fail
                    go_loopw [206] (fun vj wr => ∃ j : Nat, vj = .int .i64 j ∧ j ≤ k ∧ Hid (BuiltE wc wr B D Xc j)) (fun vj _ => k - (intOf vj).toNat)
                    case atStart => exact ⟨0, rfl, Nat.zero_le _, HB0⟩
                    case round =>
                      clear HB0
                      obtain ⟨j, rfl, hj, HBu⟩ := hrel
                      by_cases hlt : j < k
                      · obtain ⟨col, st, hbu⟩ := HBu.out
                        have HBu1 := hid hbu
                        have HRr : Hid (Reads wr pc k D Xc) := HR.out.below (by rw [HBq.out]; exact hbu.below)
                        obtain ⟨b, off, hpe, c0, c1, c2, c3, c4⟩ := HRr.out.at_ j hlt
                        have hbB : b < B := by
                          obtain ⟨b', off', e', d0, _⟩ := HR.out.at_ j hlt
                          rw [hpe] at e'
                          injection e' with e'
                          injection e' with e1
                          have := World.block_lt_of_cell? wc _ d0
                          rw [HBq.out] at this
                          rw [e1]
                          exact this
                        subst hpe
                        have HLq := hid (HRr.out.lic j hlt)
                        have HLN := hid (HRr.out.licn j hlt)
                        have HGR := hid (HRr.out.gr j hlt)
                        have HGN := hid (HRr.out.grn j hlt)
                        have HIS := hid (HRr.out.ids j hlt)
                        have HIN := hid (HRr.out.idsn j hlt)
                        clear hbu
                        cases hgp : Xc.gp j with
                        | none =>
                          obtain ⟨hgn0, hgc0⟩ := HGN.out hgp
                          rw [hgp, hgn0, hgc0] at c4
                          have C28 := hid (HBu1.out.call28 HLe.out hlt (by omega) HSm.out HTG.out HTI.out none 0 ⟨fun _ => none, fun _ => 0, ⟨fun i hi => absurd hi (by omega), fun i hi => absurd hi (by omega)⟩, fun i hi => absurd hi (by omega)⟩)
                          rw [hgn0] at C28
                          have j0 : (0 : Int) ≤ (j : Int) := by omega
                          have j1 : (j : Int) < (k : Int) := by omega
                          have hln : D.ln j ≤ 1048576 := (HSm.out j hlt).1.1
                          have lb : b < wr.heap.size := World.block_lt_of_cell? wr _ c0
                          have c0d : wr.drew.cell? _ = _ := c0
                          have c1d : wr.drew.cell? _ = _ := c1
                          have c2d : wr.drew.cell? _ = _ := c2
                          have c3d : wr.drew.cell? _ = _ := c3
                          go_wp2_with fail
                          go_region_held3 (fun w' => w'.cell? ⟨b, off + j * 5, none⟩ = some (.int .i64 (D.nb j)) ∧ w'.cell? ⟨b, off + j * 5 + 1, none⟩ = some (.int .i64 (D.na j)) ∧ w'.cell? ⟨b, off + j * 5 + 2, none⟩ = some (.int .i64 (D.dp j)) ∧ w'.cell? ⟨b, off + j * 5 + 3, none⟩ = some (.slice (Xc.lp j) (D.ln j) (Xc.lc j)))
                            (first
                              | with_reducible exact ⟨c0d, c1d, c2d, c3d⟩
                              | with_reducible exact ⟨y0, y1, y2, y3⟩
                              | with_reducible exact ⟨z0, z1, z2, z3⟩
                              | with_reducible exact ⟨c0, c1, c2, c3⟩)
                            (first
                              | ((go_at_call 10; refine (clone2_w (Xc.lp j) (D.ln j) (Xc.lc j) (D.ls j) _ HLq.out.drew HLN.out hln).mono ?_; rintro e w2 ⟨pp, ccc, rfl, k1, hgr, k3, k4, k5⟩; obtain ⟨y0, y1, y2, y3⟩ := four_cells hgr c0 c1 c2 c3))
                              | ((go_at_call 28; refine (C28.out w2 pp ccc (grown_left' hgr) k1 k3 k5).mono ?_; rintro e w3 ⟨rfl, hbu3, hk3⟩; have z0 := hk3 _ _ hbB y0; have z1 := hk3 _ _ hbB y1; have z2 := hk3 _ _ hbB y2; have z3 := hk3 _ _ hbB y3; have HB3 := hid hbu3; clear hbu3 hk3)))
                          all_goals (
                            clear z0 z1 z2 z3 y0 y1 y2 y3
                            go_wp2
                            go_roundw
                            case rel => exact ⟨j + 1, by go_num, by omega, HB3⟩
                            case measure => simp [intOf]; omega)
                        | some ga =>
                          have hgm := (HSm.out j hlt).2.1
                          have hmk2 := run_make_multi (P := Try.prog) 52 59 _ 10 168 Try.underlying52 Try.info59 _ rfl (D.gn j) (by omega) (by omega)
                          rw [hgp] at c4
                          have c4m := cell_add_alloc (o := (.cells (madeCells #[.string ByteArray.empty, .bool false, .slice none 0 0, .bool false, .slice none 0 0, .bool false, .slice none 0 0, .bool false, .slice none 0 0, .slice none 0 0] (D.gn j * 10)) 59)) c4
                          have hrow := rowIs_madeM wr #[.string ByteArray.empty, .bool false, .slice none 0 0, .bool false, .slice none 0 0, .bool false, .slice none 0 0, .bool false, .slice none 0 0, .slice none 0 0] (D.gn j * 10) 59
                          have HG0 : Hid (GgRow (wr.alloc (.cells (madeCells #[.string ByteArray.empty, .bool false, .slice none 0 0, .bool false, .slice none 0 0, .bool false, .slice none 0 0, .bool false, .slice none 0 0, .slice none 0 0] (D.gn j * 10)) 59)) (wr.alloc (.cells (madeCells #[.string ByteArray.empty, .bool false, .slice none 0 0, .bool false, .slice none 0 0, .bool false, .slice none 0 0, .bool false, .slice none 0 0, .slice none 0 0] (D.gn j * 10)) 59)) wr.heap.size (D.gn j) D Xc j 0) := ⟨by obtain ⟨f, hf⟩ := hrow; exact ⟨f, hf, fun j hj => absurd hj (by omega)⟩, grownBy_refl _ _, by rw [nblk_alloc]; omega⟩
                          have HGa : Hid (∀ wz, (wr.alloc (.cells (madeCells #[.string ByteArray.empty, .bool false, .slice none 0 0, .bool false, .slice none 0 0, .bool false, .slice none 0 0, .bool false, .slice none 0 0, .slice none 0 0] (D.gn j * 10)) 59)).grownBy wz (some wr.heap.size) → Built wc wz B (B + 2) B (B + 1) D Xc j col st) := fun wz hz => HBu1.out.grown
                            ⟨hz.os, hz.tape, hz.output, by have := hz.size; rw [nblk_alloc] at this; omega, fun k hk _ => (hz.block k (by rw [nblk_alloc]; omega) (by simp; omega)).trans (blk_alloc_lt _ _ _ hk)⟩
                          have hcl : ∀ x, wr.heap.size ≤ x → col x = 0 := HBu1.out.shelf.clip
                          have HCl := hid hcl
                          have hBr : B ≤ wr.heap.size := HBu1.out.shelf.below
                          clear hrow hcl c0 c1 c2 c3 HBu1
                          go_wp2_with fail
                          generalize wr.alloc (.cells (madeCells #[.string ByteArray.empty, .bool false, .slice none 0 0, .bool false, .slice none 0 0, .bool false, .slice none 0 0, .bool false, .slice none 0 0, .slice none 0 0] (D.gn j * 10)) 59) = wm at *
                          generalize hgsb : wr.heap.size = gsb at *
                          clear hgsb c4 c4m
                          go_loopw [228] (fun vi wr => ∃ i : Nat, vi = .int .i64 i ∧ i ≤ D.gn j ∧ Hid (GgRow wm wr gsb (D.gn j) D Xc j i)) (fun vi _ => D.gn j - (intOf vi).toNat)
                          case atStart => exact ⟨0, rfl, Nat.zero_le _, HG0⟩
                          case round =>
                            clear HG0 HRr HBu HLq
                            obtain ⟨i, rfl, hi, HGS⟩ := hrel
                            have HBi := hid (HGa.out wr HGS.out.grown)
                            have HRi : Hid (Reads wr (some ⟨b, off, none⟩) k D Xc) := HR.out.below (by rw [HBq.out]; exact HBi.out.below)
                            by_cases hig : i < D.gn j
                            · obtain ⟨b', off', e', _, _, _, _, c4⟩ := HRi.out.at_ j hlt
                              injection e' with e'
                              injection e' with e1 e2
                              subst e1
                              subst e2
                              rw [hgp] at c4
                              obtain ⟨b6, off6, hpe, e0, e1, e2⟩ := HRi.out.gr j hlt i hig
                              rw [hgp] at hpe
                              injection hpe with hpe
                              subst hpe
                              have HIi := hid (HIN.out i hig)
                              have HSt := hid (HRi.out.ids j hlt i hig)
                              have hinn : D.inn j i ≤ 1048576 := ((HSm.out j hlt).2.2 i hig).2.1
                              generalize hXi : Xc.ip j i = ip at *
                              generalize Xc.ic j i = ic at *
                              have i0 : (0 : Int) ≤ (i : Int) := by omega
                              have i1 : (i : Int) < (D.gn j : Int) := by omega
                              go_wp2_with fail
                              have O1 := hid (HGS.out.later (World.grownBy_alloc wr (.cells #[.string (D.t j i), .bool (D.a j i), .slice ip (D.inn j i) ic] 48) none))
                              have HStx := hid (HSt.out.kept (World.grownBy_alloc wr (.cells #[.string (D.t j i), .bool (D.a j i), .slice ip (D.inn j i) ic] 48) none) (by simp))
                              have x0 : (wr.alloc (.cells #[.string (D.t j i), .bool (D.a j i), .slice ip (D.inn j i) ic] 48)).cell? ⟨wr.heap.size, 0, none⟩ = some (.string (D.t j i)) := by rw [cell_of_row _ _ _ _ _ _ (heap_alloc_new wr _)]; rfl
                              have x1 : (wr.alloc (.cells #[.string (D.t j i), .bool (D.a j i), .slice ip (D.inn j i) ic] 48)).cell? ⟨wr.heap.size, 1, none⟩ = some (.bool (D.a j i)) := by rw [cell_of_row _ _ _ _ _ _ (heap_alloc_new wr _)]; rfl
                              have x2 : (wr.alloc (.cells #[.string (D.t j i), .bool (D.a j i), .slice ip (D.inn j i) ic] 48)).cell? ⟨wr.heap.size, 2, none⟩ = some (.slice ip (D.inn j i) ic) := by rw [cell_of_row _ _ _ _ _ _ (heap_alloc_new wr _)]; rfl
                              have hg7 : gsb < wr.heap.size := Nat.lt_of_lt_of_le HGS.out.lt HGS.out.grown.size
                              generalize wr.alloc (.cells #[.string (D.t j i), .bool (D.a j i), .slice ip (D.inn j i) ic] 48) = wx at *
                              generalize wr.heap.size = g7 at *
                              have lg7 : g7 < wx.heap.size := World.block_lt_of_cell? wx _ x0
                              have hne7 : gsb ≠ g7 := by omega
                              obtain ⟨f, hf, _⟩ := O1.out.row
                              have HF := hid hf
                              have x0d : wx.drew.cell? _ = _ := x0
                              have x1d : wx.drew.cell? _ = _ := x1
                              have x2d : wx.drew.cell? _ = _ := x2
                              clear hf e0 e1 e2 c4
                              go_region_held3 (fun w' => w'.cell? ⟨g7, 0, none⟩ = some (.string (D.t j i)) ∧ w'.cell? ⟨g7, 1, none⟩ = some (.bool (D.a j i)) ∧ w'.cell? ⟨g7, 2, none⟩ = some (.slice ip (D.inn j i) ic))
                                (first
                                  | with_reducible exact ⟨x0d, x1d, x2d⟩
                                  | with_reducible exact ⟨y0, y1, y2⟩
                                  | with_reducible exact ⟨z0, z1, z2⟩
                                  | with_reducible exact ten_far hne7 z0 z1 z2
                                  | with_reducible exact ⟨x0, x1, x2⟩)
                                (first
                                  | ((go_at_call 10; refine (clone2_w ip (D.inn j i) ic (D.is j i) _ HStx.out.drew HIi.out hinn).mono ?_; rintro e w2 ⟨pp, ccc, rfl, k1, hgr, k3, k4, k5⟩; obtain ⟨y0, y1, y2⟩ := three_cells hgr x0 x1 x2))
                                  | ((go_at_call 27; refine (makeGrant_w _ _ _ _ _ _).mono ?_; rintro e w3 ⟨rfl, hgr2⟩; obtain ⟨⟨q0, q1, q2, q3, q4, q5, q6, q7, q8, q9⟩, ⟨f0, f1, f2, f3, f4, f5, f6, f7, f8, f9⟩, z0, z1, z2⟩ := facts62 HF.out hgr hgr2 hig x0 x1 x2)))
                              all_goals (
                                have HGz := hid (O1.out.step (ic := ccc) (grownBy_trans (grown_left' hgr) hgr2) (k1.kept hgr2 (by simp)) (fun b off e => ⟨(k3 b off e).1, Nat.lt_of_lt_of_le (k3 b off e).2 hgr2.size⟩) (k5.trans (by rw [hXi])))
                                clear q0 q1 q2 q3 q4 q5 q6 q7 q8 q9 f0 f1 f2 f3 f4 f5 f6 f7 f8 f9 z0 z1 z2 y0 y1 y2
                                go_wp2
                                go_roundw
                                case rel => exact ⟨i + 1, by go_num, by omega, HGz⟩
                                case measure => simp [intOf]; omega)
                            · obtain ⟨b', off', e', c0, c1, c2, c3, _⟩ := HRi.out.at_ j hlt
                              injection e' with e'
                              injection e' with e1 e2
                              subst e1
                              subst e2
                              have HLq := hid (HRi.out.lic j hlt)
                              have hie : i = D.gn j := by omega
                              have HGf : Hid (GgRow wm wr gsb (D.gn j) D Xc j (D.gn j)) := by rw [hie] at HGS; exact HGS
                              have C28 := hid (HBi.out.call28 HLe.out hlt (by omega) HSm.out HTG.out HTI.out (some ⟨gsb, 0, none⟩) (D.gn j) (HGf.out.grants HCl.out))
                              clear HGS hie HGf
                              have j0 : (0 : Int) ≤ (j : Int) := by omega
                              have j1 : (j : Int) < (k : Int) := by omega
                              have hln : D.ln j ≤ 1048576 := (HSm.out j hlt).1.1
                              have lb : b < wr.heap.size := World.block_lt_of_cell? wr _ c0
                              have c0d : wr.drew.cell? _ = _ := c0
                              have c1d : wr.drew.cell? _ = _ := c1
                              have c2d : wr.drew.cell? _ = _ := c2
                              have c3d : wr.drew.cell? _ = _ := c3
                              go_wp2_with fail
                              go_region_held3 (fun w' => w'.cell? ⟨b, off + j * 5, none⟩ = some (.int .i64 (D.nb j)) ∧ w'.cell? ⟨b, off + j * 5 + 1, none⟩ = some (.int .i64 (D.na j)) ∧ w'.cell? ⟨b, off + j * 5 + 2, none⟩ = some (.int .i64 (D.dp j)) ∧ w'.cell? ⟨b, off + j * 5 + 3, none⟩ = some (.slice (Xc.lp j) (D.ln j) (Xc.lc j)))
                                (first
                                  | with_reducible exact ⟨c0d, c1d, c2d, c3d⟩
                                  | with_reducible exact ⟨y0, y1, y2, y3⟩
                                  | with_reducible exact ⟨z0, z1, z2, z3⟩
                                  | with_reducible exact ⟨c0, c1, c2, c3⟩)
                                (first
                                  | ((go_at_call 10; refine (clone2_w (Xc.lp j) (D.ln j) (Xc.lc j) (D.ls j) _ HLq.out.drew HLN.out hln).mono ?_; rintro e w2 ⟨pp, ccc, rfl, k1, hgr, k3, k4, k5⟩; obtain ⟨y0, y1, y2, y3⟩ := four_cells hgr c0 c1 c2 c3))
                                  | ((go_at_call 28; refine (C28.out w2 pp ccc (grown_left' hgr) k1 k3 k5).mono ?_; rintro e w3 ⟨rfl, hbu3, hk3⟩; have z0 := hk3 _ _ hbB y0; have z1 := hk3 _ _ hbB y1; have z2 := hk3 _ _ hbB y2; have z3 := hk3 _ _ hbB y3; have HB3 := hid hbu3; clear hbu3 hk3)))
                              all_goals (
                                clear z0 z1 z2 z3 y0 y1 y2 y3
                                go_wp2
                                go_roundw
                                case rel => exact ⟨j + 1, by go_num, by omega, HB3⟩
                                case measure => simp [intOf]; omega)
                      · have e3 : k = j := by omega
                        subst e3
                        obtain ⟨col, st, hbu⟩ := HBu.out
                        have HBu1 := hid hbu
                        clear hbu HBu
                        go_upto_region 66 with fail
                        exact tail66 w1 wc _ B s g k cc pc D Xc col st HBu1.out HR.out HBq.out HLe.out HSm.out HG.out HI.out hg hs (by omega) HBc.out _ _ rfl _ (by assumption) _ _ _ _ _ _ _ _ _ _ _ _ _ _ _ _ _ _ _ _ _ _ _ _ _ _ _ _ _ _ _ _ _ _ _ _ _ _ _ _ _ _ _ _ _ _ _ _ _ _ _ _ _ _ _ _ _ _ _ _ _ _ _ _ _ _ _ _ _ _ _ _ _ _ _ _ _ _ _ _ _ _ _ _ _ _ _ _ _ _ _ _ _ _ _ _ _ _ _ _ _ _ _ _ _ _ _ _ _ _ _ _ _ _ _ _ _ _ _ _ _ _ _ _ _ _ _ _ _ _ _ _ _ _ _ _ _ _ _ _ _ _ _ _ _ _ _ _ _ _ _ _ _ _ _ _ _ _ _ _ _ _ _ _ _ _ _ _ _ _ _ _ _ _ _ _ _ _ _ _ _ _ _ _ _ _ _ _ _ _ _ _ _ _ _ _ _ _ _ _ _ _ _ _ _ _ _ _ _ _ _ _ _ _ _ _ _ _ _ _ _ _ _ _ _ _ _ _ _ _ _ _ _ _ _ _ _ _ _ _ _ _ _ _ _ _ _ _ _ _ _ _ _ _ _ _ _ _ _ _ _ _ _ _ _ _ _ _ _ _ _ _ _ _ _ _ _ _ _ _ _ _ _ _ _ _ _ _ _ _ _ _ _ _ _ _ _ _ _ _ _ _ _ _ _ _ _ _ _ _ _ _ _ _ _ _ _ _ _ _ _ _ _ _ _ _ _ _ _ _ _ _ _ _ _ _ _ _ _ _ _ _ _ _ _ _ _ _ _ _ _ _ _ _ _ _ _ _ _ _ _ _ _ _ _ _ _ _ _ _ _ _ _ _ _ _ _ _ _ _ _ _ _ _ _ _ _ _ _ _ _ _ _ _ _ _ _ _ _ _ _ _ _ _ _ _ _ _ _ _ _ _ _ _ _ _ _ _ _ _ _ _ _ _ _ _ _ _ _ _ _ _ _ _ _ _ _ _ _ _ _ _ _ _ _ _ _ _ _ _ _ _ _ _ _ _ _ _ _ _ _ _ _ _ _ _ _ _ _ _ _ _ _ _ _ _ _ _ _ _ _ _ _ _ _ _ _ _ _ _ _ _ _ _ _ _ _ _ _ _ _ _ _ _ _ _ _ _ _ _ _ _ _ _ _ _ _ _ _ _ _ _ _ _ _ _ _ _ _ _ _ _ _ _ _ _ _ _ _ _ _ _ _ _ _ _ _ _ _ _ _ _ _ _ _ _ _ _ _ _ _ _ _ _ _ _ _ _ _ _ _ _ _ _ _ _ _ _ _ _ _ _ _ _ _ _ _ _ _ _ _ _ _ _ _ _ _ _ _ _ _ _ _ _ _ _ _ _ _ _ _ _ _ _ _ _ _ _ _ _ _ _ _ _ _ _ _ _ _ _ _ _ _ _ _ _ _ _ _ _ _ _ _ _ _ _ _ _ _ _ _ _ _ _ _ _ _ _ _ _
end Go.Proofs.Qxb6602790a
