import Derived.Test.Qxb6602790aQMatch
import Derived.Below
namespace Go.Proofs.Qxb6602790a
open Go.RowKit Go.Deep QLaw

/-- 'make([]string, 0, n)'. -/
theorem run_make_zero {P : Program} (t e : TypeId) (z : Value) (bytes : Nat) (ht : P.underlying t = some (.slice e)) (hinfo : (P.info? e).map (fun i => (i.zero, i.size, i.bytes)) = some (some z, 1, bytes)) (hz1 : z.cells = #[z])
    (n : Nat) (hbytes : bytes * n ≤ 281474976710656) (h63 : n ≤ 9223372036854775807) (w : World) :
    (Instr.makeSlice t (.int .i64 0) (.int .i64 (n : Int))).run P w = .ok (.slice (some ⟨w.heap.size, 0, none⟩) 0 n) (w.alloc (.cells (madeCells #[z] n) e)) := by
  obtain ⟨i, hi, hzz⟩ := Option.map_eq_some_iff.1 hinfo
  simp only [Prod.mk.injEq] at hzz
  obtain ⟨hz, hs, hb⟩ := hzz
  have hb' : (i.bytes : Int) * (n : Int) ≤ 281474976710656 := by
    have h : ((i.bytes * n : Nat) : Int) ≤ 281474976710656 := by rw [hb]; omega
    rwa [Int.natCast_mul] at h
  have hr := run_make (P := P) w t e i z ht hi hz .i64 .i64 0 n (by omega) (by omega) hb' (by omega)
  simp only [Int.toNat_natCast, hs, Nat.mul_one, hz1] at hr
  exact hr

theorem short_mem {n : Nat} {ss : List ByteArray} (h : Short n ss) (hl : ss.length = n) : ∀ x ∈ ss, x.size ≤ 1048576 := fun x hx => by
  obtain ⟨j, hj, e⟩ := List.mem_iff_getElem.1 hx
  have := h.2 j (by omega)
  rw [getD_eq hj, e] at this
  exact this

theorem Ord.kept {w w' : World} {B cap : Nat} {ord : List ByteArray} {row : Option Nat} (h : Ord w B cap ord) (hg : w.grownBy w' row) (hne : some B ≠ row) : Ord w' B cap ord :=
  World.ownsRow.kept h hg (.inr hne)

set_option maxHeartbeats 16000000 in
set_option maxRecDepth 100000 in
theorem main_w (p1 : Option Addr) (n1 c1 : Nat) (s1 : List ByteArray) (p2 : Option Addr) (n2 c2 : Nat) (s2 : List ByteArray) (w : World) (h1 : Strs w p1 n1 s1) (h2 : Strs w p2 n2 s2) (hn1 : n1 ≤ 9223372036854775807) (hn2 : n2 ≤ 9223372036854775807)
    (hm1 : ∀ j, j < n1 → (s1.getD j ByteArray.empty).size ≤ 9223372036854775807) (hm2 : ∀ j, j < n2 → (s2.getD j ByteArray.empty).size ≤ 9223372036854775807)
    (hp1 : p1 = none → n1 = 0 ∧ c1 = 0) (hp2 : p2 = none → n2 = 0 ∧ c2 = 0) :
    Calls Try.prog 3 #[.slice p1 n1 c1, .slice p2 n2 c2] w fun e w' => e = .returned (.bool true) ∧ Below w.heap.size w w' := by
  have CB := hid (qbytes_w p1 n1 c1 s1 p2 n2 c2 s2 w h1 h2 hn1 hn2 hm1 hm2)
  have H1 := hid h1
  have H2 := hid h2
  have HP1 := hid hp1
  have HP2 := hid hp2
  clear h1 h2 hm1 hm2 hp1 hp2
  go_enter Try.func3, Try.ntmps3
  go_wp2_with fail
  refine CB.out.mono ?_
  clear CB
  rintro e w1 ⟨⟨q, rfl, hq⟩, rfl⟩
  cases q with
  | false =>
    clear hq
    go_wp2
    go_ret
    exact ⟨rfl, Below.refl _ _⟩
  | true =>
    obtain ⟨hs1, hs2⟩ := hq rfl
    have HS1 := hid hs1
    have HS2 := hid hs2
    clear hq hs1 hs2
    by_cases hb1 : 4096 < n1
    · go_wp2
      go_ret
      exact ⟨rfl, Below.refl _ _⟩
    · by_cases hb2 : 4096 < n2
      · go_wp2
        go_ret
        exact ⟨rfl, Below.refl _ _⟩
      · have B1 := hid (strBytes_w p1 n1 c1 s1 w1 H1.out HS1.out)
        have B2 := hid (strBytes_w p2 n2 c2 s2 w1 H2.out HS2.out)
        go_wp2_with fail
        refine B1.out.mono ?_
        rintro e w2 ⟨⟨q1, rfl, hq1⟩, rfl⟩
        go_wp2_with fail
        refine B2.out.mono ?_
        rintro e w3 ⟨⟨q2, rfl, hq2⟩, rfl⟩
        clear B1 B2
        by_cases hb3 : 1048576 < q1 + q2
        · go_wp2
          go_ret
          exact ⟨rfl, Below.refl _ _⟩
        · have C1 := hid (cloneS_w p1 n1 c1 s1 w3 H1.out HP1.out (by omega))
          go_wp2_with fail
          refine C1.out.mono ?_
          clear C1
          rintro e wa ⟨pa, ca, rfl, ha1, ha2, ha3⟩
          have HL1 := hid ha1.len
          have C2 := hid (cloneS_w p2 n2 c2 s2 wa (H2.out.kept ha2 (by simp)) HP2.out (by omega))
          have HA1 := hid ha1
          have HA2 := hid ha2
          have HA3 := hid ha3
          clear ha1 ha2 ha3
          go_wp2_with fail
          refine C2.out.mono ?_
          clear C2
          rintro e wb ⟨pb, cb, rfl, hb4, hb5, hb6⟩
          have HL2 := hid hb4.len
          have HB1 := hid hb4
          have HB2 := hid hb5
          have HB3 := hid hb6
          have hmk := run_make_zero (P := Try.prog) 22 9 (.string ByteArray.empty) 16 Try.underlying22 Try.info9 rfl (n1 + n2) (by omega) (by omega) wb
          clear hb4 hb5 hb6
          have hmk2 : (Instr.makeSlice 22 (.int .i64 0) (.int .i64 ((n1 : Int) + (n2 : Int)))).run Try.prog wb = .ok (.slice (some ⟨wb.heap.size, 0, none⟩) 0 (n1 + n2)) (wb.alloc (.cells (madeCells #[.string ByteArray.empty] (n1 + n2)) 9)) := by
            rw [← hmk, show ((n1 + n2 : Nat) : Int) = (n1 : Int) + (n2 : Int) by omega]
          clear hmk
          have HO0 : Hid (Ord (wb.alloc (.cells (madeCells #[.string ByteArray.empty] (n1 + n2)) 9)) wb.heap.size (n1 + n2) []) :=
            World.ownsRow_made wb _ (n1 + n2) (Nat.le_refl _) (by unfold maxLen; omega) (by simp [size_madeCells])
          have hwab : w3.heap.size ≤ wa.heap.size := HA2.out.size
          have hwb : wa.heap.size ≤ wb.heap.size := HB2.out.size
          have HX1 : Hid (∀ b off, pa = some ⟨b, off, none⟩ → b < wb.heap.size) := fun b off e => by have := (HA3.out b off e).2; omega
          have HX2 : Hid (∀ b off, pb = some ⟨b, off, none⟩ → b < wb.heap.size) := fun b off e => (HB3.out b off e).2
          have HGc := hid (World.grownBy_alloc wb (.cells (madeCells #[.string ByteArray.empty] (n1 + n2)) 9) none)
          have HBc : Hid (Below w3.heap.size w3 (wb.alloc (.cells (madeCells #[.string ByteArray.empty] (n1 + n2)) 9))) :=
            (((Below.refl w3.heap.size w3).grown HA2.out (Nat.le_refl _) (fun k e => by cases e)).grown HB2.out hwab (fun k e => by cases e)).grown HGc.out (by omega) (fun k e => by cases e)
          have HT1 : Hid (Strs (wb.alloc (.cells (madeCells #[.string ByteArray.empty] (n1 + n2)) 9)) pa n1 s1) := (HA1.out.kept HB2.out (by simp)).kept HGc.out (by simp)
          have HT2 : Hid (Strs (wb.alloc (.cells (madeCells #[.string ByteArray.empty] (n1 + n2)) 9)) pb n2 s2) := HB1.out.kept HGc.out (by simp)
          have hwc : wb.heap.size < (wb.alloc (.cells (madeCells #[.string ByteArray.empty] (n1 + n2)) 9)).heap.size := by rw [nblk_alloc]; omega
          go_wp2_with fail
          generalize wb.alloc (.cells (madeCells #[.string ByteArray.empty] (n1 + n2)) 9) = wc at *
          generalize wb.heap.size = B at *
          clear hmk2 HGc HB1 HB2 HB3 HA1 HA2
          have F1 := hid (firstSeen_w B (n1 + n2) [] pa n1 ca s1 wc HO0.out HT1.out (fun b off e => by have := HX1.out b off e; omega) (by simp) (by omega))
          refine F1.out.mono ?_
          clear F1
          rintro e wd ⟨rfl, hd1, hd2⟩
          have HD1 := hid hd1
          have HBd := hid (HBc.out.grown hd2 HBc.out.size (fun k e => by injection e with e; omega))
          have HU1 := hid (HT1.out.kept hd2 (fun b off e => by have := HX1.out b off e; simp; omega))
          have HU2 := hid (HT2.out.kept hd2 (fun b off e => by have := HX2.out b off e; simp; omega))
          have hld : (fs [] s1).length ≤ n1 := by have := fs_length s1 []; rw [HL1.out] at this; simpa using this
          have hwd : wc.heap.size ≤ wd.heap.size := hd2.size
          clear hd1 hd2 HO0 HT1 HT2 HBc
          obtain ⟨O1, hO1⟩ : ∃ O1, O1 = fs [] s1 := ⟨_, rfl⟩
          rw [← hO1] at HD1 hld ⊢
          have HO1 := hid hO1
          clear hO1
          have F2 := hid (firstSeen_w B (n1 + n2) O1 pb n2 cb s2 wd HD1.out HU2.out (fun b off e => by have := HX2.out b off e; omega) (by omega) (by omega))
          go_wp2_with fail
          refine F2.out.mono ?_
          clear F2
          rintro e we ⟨rfl, he1, he2⟩
          have HBe := hid (HBd.out.grown he2 HBd.out.size (fun k e => by injection e with e; omega))
          have HV1 := hid (HU1.out.kept he2 (fun b off e => by have := HX1.out b off e; simp; omega))
          have HV2 := hid (HU2.out.kept he2 (fun b off e => by have := HX2.out b off e; simp; omega))
          have hle : (fs O1 s2).length ≤ n1 + n2 := by have := fs_length s2 O1; rw [HL2.out] at this; omega
          have hwe : wd.heap.size ≤ we.heap.size := he2.size
          have HE1 := hid he1
          clear he1 he2 HD1 HU1 HU2 HBd
          obtain ⟨O2, hO2⟩ : ∃ O2, O2 = fs O1 s2 := ⟨_, rfl⟩
          rw [← hO2] at HE1 hle ⊢
          have HO2 := hid hO2
          clear hO2
          go_wp2_with fail
          refine (newQuery_w we).mono ?_
          rintro e wf ⟨rfl, hf1, hf2⟩
          have HBf := hid (HBe.out.grown hf2 HBe.out.size (fun k e => by cases e))
          have HW1 := hid (HV1.out.kept hf2 (by simp))
          have HW2 := hid (HV2.out.kept hf2 (by simp))
          have HE2 := hid (HE1.out.kept hf2 (by simp))
          have hwf : we.heap.size + 1 < wf.heap.size := World.block_lt_of_cell? wf _ hf1.cell
          have HQf := hid hf1
          clear hf1 hf2 HBe HV1 HV2 HE1
          generalize we.heap.size = mb at *
          have HG0 := hid QLaw.Good.nil
          have A1 := hid (queryAsk_w (mb + 1) mb [] pa n1 ca s1 wf HQf.out HG0.out HW1.out HS1.out (by simp; omega) (by omega) (fun b off e => by have := HX1.out b off e; omega))
          go_wp2_with fail
          refine A1.out.mono ?_
          clear A1
          rintro e wg ⟨l1, pg, ng, cg, rfl, hg1, hg2, hg3, hg4, hg5, hg6⟩
          rw [← HO1.out] at hg3 hg4
          rw [HL1.out] at hg2
          have HBg := hid (HBf.out.grown hg5 HBf.out.size (fun k e => by injection e with e; omega))
          have HY1 := hid (HW1.out.kept hg5 (fun b off e => by have := HX1.out b off e; simp; omega))
          have HY2 := hid (HW2.out.kept hg5 (fun b off e => by have := HX2.out b off e; simp; omega))
          have HE3 := hid (HE2.out.kept hg5 (by simp; omega))
          have hwg : wf.heap.size ≤ wg.heap.size := hg5.size
          have HQg := hid hg4
          have HGg := hid hg3
          have HWg := hid hg1
          have HPg := hid hg6
          clear hg1 hg3 hg4 hg5 hg6 HBf HW1 HW2 HE2 HQf
          have HG1 : Hid (QLaw.Good O1) := by rw [HO1.out]; exact HG0.out.fs s1
          have A2 := hid (queryAsk_w (mb + 1) mb O1 pb n2 cb s2 wg HQg.out HG1.out HY2.out HS2.out (by omega) (by omega) (fun b off e => by have := HX2.out b off e; omega))
          go_wp2_with fail
          refine A2.out.mono ?_
          clear A2
          rintro e wh ⟨l2, ph, nh, ch, rfl, hg1, hg3, hg4, hg7, hg5, hg6⟩
          rw [← HO2.out] at hg4 hg7
          rw [HL2.out] at hg3
          have HBh := hid (HBg.out.grown hg5 HBg.out.size (fun k e => by injection e with e; omega))
          have HZ1 := hid (HY1.out.kept hg5 (fun b off e => by have := HX1.out b off e; simp; omega))
          have HZ2 := hid (HY2.out.kept hg5 (fun b off e => by have := HX2.out b off e; simp; omega))
          have HE4 := hid (HE3.out.kept hg5 (by simp; omega))
          have HGg2 := hid (HGg.out.kept hg5 (fun b e => by have := (HPg.out b e).1; simp; omega))
          have HQh := hid hg7
          have HGh := hid hg4
          have HWh := hid hg1
          clear hg1 hg4 hg7 hg5 hg6 HBg HY1 HY2 HE3 HQg HGg HPg
          have HG2 : Hid (QLaw.Good O2) := by rw [HO2.out]; exact HG1.out.fs s2
          have M1 := hid (matches_w (some ⟨B, 0, none⟩) O2.length (n1 + n2) O2 pa n1 ca s1 l1 pg ng cg O1 wh HE4.out.strs HZ1.out HWg.out HGg2.out HG2.out (fun i x hx => by rw [HO2.out]; exact fs_get s2 O1 hx)
            (fun x h1 h2 => by rw [HO1.out]; exact (fs_mem s1 [] x).2 (.inr ⟨h1, h2⟩)) (by omega) (by omega) (by omega))
          have M2 := hid (matches_w (some ⟨B, 0, none⟩) O2.length (n1 + n2) O2 pb n2 cb s2 l2 ph nh ch O2 wh HE4.out.strs HZ2.out HWh.out HGh.out HG2.out (fun i x hx => hx)
            (fun x h1 h2 => by rw [HO2.out]; exact (fs_mem s2 O1 x).2 (.inr ⟨h1, h2⟩)) (by omega) (by omega) (by omega))
          have HSz : Hid (∀ x ∈ O2, x.size ≤ 1048576) := fun x hx => by
            rw [HO2.out] at hx
            rcases (fs_mem s2 O1 x).1 hx with h | h
            · rw [HO1.out] at h
              rcases (fs_mem s1 [] x).1 h with h | h
              · cases h
              · exact short_mem HS1.out HL1.out x h.1
            · exact short_mem HS2.out HL2.out x h.1
          clear HZ1 HZ2 HGg2 HGh HWg HWh HG2 HG1 HG0
          obtain ⟨L2, hL2⟩ : ∃ L2, L2 = O2.length := ⟨_, rfl⟩
          rw [← hL2] at M1 M2 hle ⊢
          have HL2e := hid hL2
          clear hL2
          go_wp2_with fail
          refine M1.out.mono ?_
          clear M1
          rintro e wi ⟨rfl, rfl⟩
          go_wp2_with fail
          refine M2.out.mono ?_
          clear M2
          rintro e wj ⟨rfl, rfl⟩
          have CT := hid (count_w (mb + 1) mb O2 wj HQh.out)
          rw [← HL2e.out] at CT
          go_wp2_with fail
          refine CT.out.mono ?_
          clear CT
          rintro e wk ⟨rfl, rfl⟩
          go_wp2
          go_loop [82] (fun vk => ∃ k : Nat, vk = .int .i64 k ∧ k ≤ L2) (fun vk => L2 - (intOf vk).toNat)
          case atStart => exact ⟨0, rfl, Nat.zero_le _⟩
          case round =>
            obtain ⟨k, rfl, hk⟩ := hrel
            by_cases hlt : k < L2
            · have hkl : k < O2.length := by rw [← HL2e.out]; exact hlt
              obtain ⟨b, off, hpe, hc⟩ := HE4.out.strs.at_ k hkl
              injection hpe with hpe
              injection hpe with hpe1 hpe2
              subst hpe1; subst hpe2
              have hcell := hc k hkl
              clear hc
              rw [Nat.zero_add, getD_eq hkl] at hcell
              have NB := hid (number_w (mb + 1) mb O2 wk HQh.out k O2[k] (List.getElem?_eq_getElem hkl) (by have := HSz.out O2[k] (List.getElem_mem hkl); simp only [maxLen]; omega))
              generalize O2[k] = s at hcell NB
              go_wp2_with fail
              refine NB.out.mono ?_
              rintro e wl ⟨rfl, rfl⟩
              go_wp2
              go_round
              case rel => exact ⟨k + 1, by go_num, by omega⟩
              case measure => simp [intOf]; omega
            · go_wp2
              go_ret
              exact ⟨rfl, HBh.out⟩
end Go.Proofs.Qxb6602790a
