import Derived.Test.Qxb6602790aSAdd0
namespace Go.Proofs.Qxb6602790a
open Go.RowKit Go.Deep SLaw
attribute [local go_sem ↓] Go.wp_at_zero Go.wp_at_succ

set_option maxHeartbeats 4000000 in
set_option maxRecDepth 100000 in
theorem add_w (w : World) (B sb m1 m2 : Nat) (col : Nat → Nat) (st : List Sto) (F U : List (K × R)) (nb na dp : Int) (lp : Option Addr) (ln lc : Nat) (gp : Option Addr) (gn gc : Nat) (h : Shelf w B sb m1 m2 col st F U) (hst : st.length ≤ 4096)
    (T : Nat → ByteArray) (A : Nat → Bool) (ip : Nat → Option Addr) (inn ic : Nat → Nat) (IS : Nat → List ByteArray) (hg : Grants w col gp gn T A ip inn ic IS) (hgn : gn ≤ 4096) (hT : ∀ i, i < gn → (T i).size ≤ 1048576) (hI : ∀ i, i < gn → Short (inn i) (IS i)) (hF : ∀ i, i ≤ gn → (F ++ upF T A IS st.length i).length ≤ 8192) (hU : ∀ i, i ≤ gn → (U ++ upU T A st.length i).length ≤ 8192) :
    Calls Try.prog 40 #[.pointer (some ⟨sb, 0, none⟩), .agg #[.int .i64 nb, .int .i64 na, .int .i64 dp, .slice lp ln lc, .slice gp gn gc]] w fun e w' => e = .returned (.tuple #[]) ∧ Next w B sb m1 m2 col (st ++ [(⟨nb, na, dp, lp, ln, lc, gp, gn, gc⟩ : Sto)]) (F ++ upF T A IS st.length gn) (U ++ upU T A st.length gn) w' := by
  obtain ⟨i91, hinf, hz0, hz1, hz2⟩ := info_parts Try.info91
  obtain ⟨i100, hinf', hy0, hy1, hy2⟩ := info_parts Try.info100
  have hsbw := h.lt.1
  have hSw := h.grown (World.grownBy_alloc w (.cells #[.int .i64 nb, .int .i64 na, .int .i64 dp, .slice lp ln lc, .slice gp gn gc] 91) none)
  have HS := hid h
  have HG := hid (hg.alloc (.cells #[.int .i64 nb, .int .i64 na, .int .i64 dp, .slice lp ln lc, .slice gp gn gc] 91))
  have HT := hid hT
  have HI := hid hI
  have HF := hid hF
  have HU := hid hU
  clear h hg hT hI hF hU
  obtain ⟨v, hbox, hown, hcol, hfin⟩ := hSw.toSets (⟨nb, na, dp, lp, ln, lc, gp, gn, gc⟩ : Sto)
  have hr3 := World.rowIs_alloc w #[.int .i64 nb, .int .i64 na, .int .i64 dp, .slice lp ln lc, .slice gp gn gc] 91 (fun i => (stoCells (⟨nb, na, dp, lp, ln, lc, gp, gn, gc⟩ : Sto)).getD i undef) (fun i hi => by
    rcases (show i = 0 ∨ i = 1 ∨ i = 2 ∨ i = 3 ∨ i = 4 by simp at hi; omega) with rfl | rfl | rfl | rfl | rfl <;> rfl)
  obtain ⟨pa, pc, rfl⟩ := slice_shape' hown
  have hc0 : _ = some (Value.slice pa st.length pc) := hbox.cell (i := 0) (by omega)
  have hB := hSw.below
  have HSw := hid hSw
  have HTw := hid ((Turn.refl col w).grown (World.grownBy_alloc w (.cells #[.int .i64 nb, .int .i64 na, .int .i64 dp, .slice lp ln lc, .slice gp gn gc] 91) none) (fun x e => by cases e))
  have HOwn := hid hown
  have HCol := hid hcol
  have HFin := hid hfin
  have HBox := hid hbox
  have hd0 : _ = some (Value.int .i64 nb) := hr3.cell (i := 0) (by simp)
  have hd1 : _ = some (Value.int .i64 na) := hr3.cell (i := 1) (by simp)
  have hd2 : _ = some (Value.int .i64 dp) := hr3.cell (i := 2) (by simp)
  have hd3 : _ = some (Value.slice lp ln lc) := hr3.cell (i := 3) (by simp)
  have hd4 : _ = some (Value.slice gp gn gc) := hr3.cell (i := 4) (by simp)
  have HR3 := hid hr3
  have nsb : some sb ≠ (Value.slice pa st.length pc).ownBlock := fun e => by have h1 := hcol sb e.symm; rw [hSw.cb] at h1; cases h1
  have nbx : some w.heap.size ≠ (Value.slice pa st.length pc).ownBlock := fun e => by have h1 := hcol _ e.symm; rw [HS.out.clip _ (Nat.le_refl _)] at h1; cases h1
  clear hSw hown hcol hfin hbox hr3
  go_enter Try.func40, Try.ntmps40
  go_wp2_with fail
  generalize hwa : w.alloc (.cells #[.int .i64 nb, .int .i64 na, .int .i64 dp, .slice lp ln lc, .slice gp gn gc] 91) = wa at *
  generalize hbx : w.heap.size = bx at *
  clear hwa
  have lb : sb < wa.heap.size := World.block_lt_of_cell? wa _ hc0
  have lx : bx < wa.heap.size := World.block_lt_of_cell? wa _ hd0
  apply cutG
  case k =>
    intro key
    go_region_law
      ((refine step_append_lies _ (by rfl) _ _ _ (by rfl) B 91 i91 _ 5 72 Try.underlying86 hinf hz0 hz1 hz2 rfl (by omega) (.slice pa st.length pc) st.length _ (by rfl) ((HOwn.out.alloc _).drew)
          ⟨wa.heap.size, 0, none⟩ 1 1 (stoCells (⟨nb, na, dp, lp, ln, lc, gp, gn, gc⟩ : Sto)) (by rfl) (by rfl) (World.news_of_block (cs := #[.int .i64 nb, .int .i64 na, .int .i64 dp, .slice lp ln lc, .slice gp gn gc]) (t := 91) (fr := (0, 0)) (heap_alloc_new wa _)) (one_sto (⟨nb, na, dp, lp, ln, lc, gp, gn, gc⟩ : Sto))
          (by omega) (by simp only [maxLen]; omega) (by omega) (by simp; omega) (wa.heap.size + 1) (by simp) ?_; intro gg cap w1 hown1 hgrow hat hlt; have hf1 : w1.frozen? ⟨sb, 0, none⟩ = false := (hgrow.frozen_far ⟨sb, 0, none⟩ (by simp; omega) nsb).trans ((HBox.out.alloc _).frozen 0); have hf2 : w1.cell? ⟨sb, 0, none⟩ = some (boxF (.slice pa st.length pc) m1 m2 0) := (hgrow.cell_far ⟨sb, 0, none⟩ (by simp; omega) nsb).trans ((HBox.out.alloc _).cell (i := 0) (by omega))))
    all_goals (
      have HN := hid (HFin.out w1 gg cap (grownBy_trans (World.grownBy_alloc wa _ _) (grown_left hgrow)) hown1 (hat.imp (fun h => h) (fun e => by omega)))
      clear hf1 hf2 hown1 hgrow hat hlt
      generalize w1.setCell ⟨sb, 0, none⟩ (Value.slice (some ⟨gg, 0, none⟩) (st.length + 1) cap) = wz at HN ⊢
      generalize Value.slice (some ⟨gg, 0, none⟩) (st.length + 1) cap = x23
      clear w1 gg cap
      revert wz x23
      exact key 0 0)
  case h =>
    intro wz HN x23
    have cbx : col bx = 0 := by rw [← hbx]; exact HS.out.clip _ (Nat.le_refl _)
    have hz4 : wz.cell? ⟨bx, 4, none⟩ = some (.slice gp gn gc) := by
      obtain ⟨_, _, _, ht⟩ := HN.out
      exact ht.cell cbx hd4
    clear hd0 hd1 hd2 hd3 hd4 hc0
    go_wp2
    go_loopw [29] (fun vi wr => ∃ i : Nat, vi = .int .i64 i ∧ i ≤ gn ∧ Hid (Next wa B sb m1 m2 col (st ++ [(⟨nb, na, dp, lp, ln, lc, gp, gn, gc⟩ : Sto)]) (F ++ upF T A IS st.length i) (U ++ upU T A st.length i) wr)) (fun vi _ => gn - (intOf vi).toNat)
    case atStart => exact ⟨0, rfl, Nat.zero_le _, by simpa [upF, upU] using HN⟩
    case round =>
      clear HN hz4
      obtain ⟨i, rfl, hi, HN⟩ := hrel
      by_cases hlt : i < gn
      · obtain ⟨col1, ag1, s1, t1⟩ := HN.out
        obtain ⟨gb, hpe, hcb, hcl⟩ := HG.out.cells i hlt
        obtain ⟨hids, hidc⟩ := HG.out.ids i hlt
        subst hpe
        have hq0 : wr.cell? ⟨gb, i * 10, none⟩ = some (.string (T i)) := t1.cell hcb (hcl 0 (by omega))
        have hq1 : wr.cell? ⟨gb, i * 10 + 1, none⟩ = some (.bool (A i)) := t1.cell hcb (hcl 1 (by omega))
        have hq2 : wr.cell? ⟨gb, i * 10 + 2, none⟩ = some (.slice (ip i) (inn i) (ic i)) := t1.cell hcb (hcl 2 (by omega))
        have hq3 : wr.cell? ⟨gb, i * 10 + 3, none⟩ = some (.bool false) := t1.cell hcb (hcl 3 (by omega))
        have hq4 : wr.cell? ⟨gb, i * 10 + 4, none⟩ = some (.slice none 0 0) := t1.cell hcb (hcl 4 (by omega))
        have hq5 : wr.cell? ⟨gb, i * 10 + 5, none⟩ = some (.bool false) := t1.cell hcb (hcl 5 (by omega))
        have hq6 : wr.cell? ⟨gb, i * 10 + 6, none⟩ = some (.slice none 0 0) := t1.cell hcb (hcl 6 (by omega))
        have hq7 : wr.cell? ⟨gb, i * 10 + 7, none⟩ = some (.bool false) := t1.cell hcb (hcl 7 (by omega))
        have hq8 : wr.cell? ⟨gb, i * 10 + 8, none⟩ = some (.slice none 0 0) := t1.cell hcb (hcl 8 (by omega))
        have hq9 : wr.cell? ⟨gb, i * 10 + 9, none⟩ = some (.slice none 0 0) := t1.cell hcb (hcl 9 (by omega))
        have HA := hid ag1
        have HS1 := hid s1
        have HT1 := hid t1
        have HSt := hid hids
        have HIc := hid hidc
        clear hcl ag1 s1 t1 hids hidc
        generalize hTi : T i = ty at *
        cases hA : A i with
        | true =>
          rw [hA] at hq1
          go_wp2_with fail
          have HSx := hid (HS1.out.grown (grow2 wr (.cells #[.string ty, .bool true, .slice (ip i) (inn i) (ic i), .bool false, .slice none 0 0, .bool false, .slice none 0 0, .bool false, .slice none 0 0, .slice none 0 0] 59) (.cells #[.int .i64 (st.length : Int), .int .i64 (i : Int)] 100)))
          have HNx := hid (HN.out.grown (grow2 wr (.cells #[.string ty, .bool true, .slice (ip i) (inn i) (ic i), .bool false, .slice none 0 0, .bool false, .slice none 0 0, .bool false, .slice none 0 0, .slice none 0 0] 59) (.cells #[.int .i64 (st.length : Int), .int .i64 (i : Int)] 100)))
          have HTx := hid (HT1.out.grown (grow2 wr (.cells #[.string ty, .bool true, .slice (ip i) (inn i) (ic i), .bool false, .slice none 0 0, .bool false, .slice none 0 0, .bool false, .slice none 0 0, .slice none 0 0] 59) (.cells #[.int .i64 (st.length : Int), .int .i64 (i : Int)] 100)) (fun x e => by cases e))
          obtain ⟨hx0, hx1, hx2, hx3⟩ := two_new wr #[.string ty, .bool true, .slice (ip i) (inn i) (ic i), .bool false, .slice none 0 0, .bool false, .slice none 0 0, .bool false, .slice none 0 0, .slice none 0 0] #[.int .i64 (st.length : Int), .int .i64 (i : Int)] 59 100 (.string ty) (.int .i64 (st.length : Int)) (.int .i64 (i : Int)) rfl rfl rfl
          have c6 : col1 wr.heap.size = 0 := HS1.out.clip _ (Nat.le_refl _)
          have c7 : col1 (wr.heap.size + 1) = 0 := HS1.out.clip _ (by omega)
          generalize hwx : (wr.alloc (.cells #[.string ty, .bool true, .slice (ip i) (inn i) (ic i), .bool false, .slice none 0 0, .bool false, .slice none 0 0, .bool false, .slice none 0 0, .slice none 0 0] 59)).alloc (.cells #[.int .i64 (st.length : Int), .int .i64 (i : Int)] 100) = wx at *
          clear hwx hq0 hq1 hq2 hq3 hq4 hq5 hq6 hq7 hq8 hq9
          generalize wr.heap.size = g6 at *
          obtain ⟨v, nn, xs, hlook, hown, hnn, hcolv, hfin⟩ := HSx.out.toUnlisted (ty := ty) (by rw [← hTi]; exact HT.out i hlt) (st.length, i)
          obtain ⟨va, vc, rfl⟩ := slice_shape' hown
          have hlk1 := hlook wx rfl
          have hlk2 := hlook wx.drew rfl
          have HSl := hid HSx.out.lt
          have hlk3 : ∀ o, _ := fun o => hlook (wx.alloc o) (blk_alloc_lt _ _ _ HSl.out.2.2)
          have hlk4 : ∀ o, _ := fun o => hlook (wx.alloc o).drew (blk_alloc_lt _ _ _ HSl.out.2.2)
          have nsb8 : some sb ≠ (Value.slice va nn vc).ownBlock := fun e => by have h1 := hcolv sb e.symm; rw [HSx.out.cb] at h1; omega
          have n6 : some g6 ≠ (Value.slice va nn vc).ownBlock := fun e => by have h1 := hcolv _ e.symm; omega
          have n7 : some (g6 + 1) ≠ (Value.slice va nn vc).ownBlock := fun e => by have h1 := hcolv _ e.symm; omega
          have hb2 := (HNx.out.box).2
          have HOw := hid hown
          have HFi := hid hfin
          have lsb : sb < wx.heap.size := HSl.out.1
          have hBx := HSx.out.below
          have hn8 : nn ≤ 8192 := by have := HU.out i hi; omega
          clear hlook hown hcolv hfin
          go_region_held3 (fun w' => w'.cell? ⟨sb, 2, none⟩ = some (.map (some m2)) ∧ w'.cell? ⟨g6, 0, none⟩ = some (.string ty) ∧ w'.cell? ⟨g6 + 1, 0, none⟩ = some (.int .i64 (st.length : Int)) ∧ w'.cell? ⟨g6 + 1, 1, none⟩ = some (.int .i64 (i : Int)))
            (first
              | (go_split_ands
                 refine ⟨?_, ?_, ?_, ?_⟩
                 all_goals assumption)
              | (go_split_ands
                 refine ⟨?_, ?_, ?_, ?_⟩
                 all_goals (exact cell_add_alloc (by assumption)))
              | (go_split_ands
                 refine ⟨?_, ?_, ?_, ?_⟩
                 · (rw [hgrow.cell_far _ (by simp; omega) nsb8]; assumption)
                 · (rw [hgrow.cell_far _ (by simp; omega) n6]; assumption)
                 · (rw [hgrow.cell_far _ (by simp; omega) n7]; assumption)
                 · (rw [hgrow.cell_far _ (by simp; omega) n7]; assumption)))
            ((refine step_append_lies _ (by rfl) _ _ _ (by rfl) B 100 i100 _ 2 16 Try.underlying93 hinf' hy0 hy1 hy2 rfl (by omega) (.slice va nn vc) nn _ (by rfl) ((HOw.out.alloc _).drew)
                  ⟨wx.heap.size, 0, none⟩ 1 1 [.int .i64 (st.length : Int), .int .i64 (i : Int)] (by rfl) (by rfl) (World.news_of_block (cs := #[.int .i64 (st.length : Int), .int .i64 (i : Int)]) (t := 100) (fr := (0, 0)) (heap_alloc_new wx _)) (one_ref (st.length, i))
                  (by omega) (by simp only [maxLen]; omega) (by omega) (by simp; omega) (wx.heap.size + 1) (by simp) ?_; intro gg cap w1 hown1 hgrow hat hlt1; obtain ⟨w3, hup, hn3⟩ := HFi.out w1 gg cap (grownBy_trans (World.grownBy_alloc wx _ _) (grown_left hgrow)) hown1 (hat.imp (fun h => h) (fun e => by omega)); have hk1 := hn3.box.2; have hk2 := hn3.cell c6 hx0; have hk3 := hn3.cell c7 hx1; have hk4 := hn3.cell c7 hx2; have HN3 := hid hn3; clear hn3))
          all_goals (
            have HR := hid (Next.chain HA.out HTx.out HN3.out)
            rw [List.append_assoc, show upU T A st.length i ++ [((ty, ByteArray.empty), (st.length, i))] = upU T A st.length (i + 1) by rw [upU_succ, gU, if_pos hA, hTi], show upF T A IS st.length i = upF T A IS st.length (i + 1) by rw [upF_succ, gF, if_pos hA, List.append_nil]] at HR
            clear hup hk1 hk2 hk3 hk4 hown1 hgrow hat hlt1 HN3
            go_wp2
            go_roundw
            case rel => exact ⟨i + 1, by go_num, by omega, HR⟩
            case measure => simp [intOf]; omega)
        | false =>
          rw [hA] at hq1
          have HSh := hid (HI.out i hlt)
          have hmm : inn i ≤ 1048576 := (HI.out i hlt).1
          have HPt : Hid (upF T A IS st.length (i + 1) = upF T A IS st.length i ++ (IS i).map (fun id => ((ty, id), (st.length, i)))) := by show _ = _; rw [upF_succ, gF, if_neg (by rw [hA]; simp), hTi]
          have HUt : Hid (upU T A st.length (i + 1) = upU T A st.length i) := by show _ = _; rw [upU_succ, gU, if_neg (by rw [hA]; simp), List.append_nil]
          have htyz : ty.size ≤ 1048576 := by rw [← hTi]; exact HT.out i hlt
          generalize hpi : ip i = p at *
          generalize hmi : inn i = m at *
          generalize hci : ic i = cI at *
          clear hpi hmi hci
          go_wp2_with fail
          have HSx := hid (HS1.out.grown (grow2 wr (.cells #[.string ty, .bool false, .slice p m cI, .bool false, .slice none 0 0, .bool false, .slice none 0 0, .bool false, .slice none 0 0, .slice none 0 0] 59) (.cells #[.int .i64 (st.length : Int), .int .i64 (i : Int)] 100)))
          have HTx := hid (HT1.out.grown (grow2 wr (.cells #[.string ty, .bool false, .slice p m cI, .bool false, .slice none 0 0, .bool false, .slice none 0 0, .bool false, .slice none 0 0, .slice none 0 0] 59) (.cells #[.int .i64 (st.length : Int), .int .i64 (i : Int)] 100)) (fun x e => by cases e))
          obtain ⟨hx0, hx1, hx2, hx3⟩ := two_new wr #[.string ty, .bool false, .slice p m cI, .bool false, .slice none 0 0, .bool false, .slice none 0 0, .bool false, .slice none 0 0, .slice none 0 0] #[.int .i64 (st.length : Int), .int .i64 (i : Int)] 59 100 (.string ty) (.int .i64 (st.length : Int)) (.int .i64 (i : Int)) rfl rfl rfl
          have c6 : col1 wr.heap.size = 0 := HS1.out.clip _ (Nat.le_refl _)
          have c7 : col1 (wr.heap.size + 1) = 0 := HS1.out.clip _ (by omega)
          generalize hwx : (wr.alloc (.cells #[.string ty, .bool false, .slice p m cI, .bool false, .slice none 0 0, .bool false, .slice none 0 0, .bool false, .slice none 0 0, .slice none 0 0] 59)).alloc (.cells #[.int .i64 (st.length : Int), .int .i64 (i : Int)] 100) = wx at *
          clear hwx hq0 hq1 hq2 hq3 hq4 hq5 hq6 hq7 hq8 hq9
          generalize wr.heap.size = g6 at *
          go_loopw [64] (fun vk wq => ∃ k : Nat, vk = .int .i64 k ∧ k ≤ m ∧ Hid (Next wx B sb m1 m2 col1 (st ++ [(⟨nb, na, dp, lp, ln, lc, some ⟨gb, 0, none⟩, gn, gc⟩ : Sto)]) (F ++ upF T A IS st.length i ++ ((IS i).take k).map (fun id => ((ty, id), (st.length, i)))) (U ++ upU T A st.length i) wq)) (fun vk _ => m - (intOf vk).toNat)
          case atStart => exact ⟨0, rfl, Nat.zero_le _, by have := Next.refl HSx.out; show Next _ _ _ _ _ _ _ _ _ _; simpa using this⟩
          case round =>
            obtain ⟨k, rfl, hk, HN2⟩ := hrel
            by_cases hkm : k < m
            · obtain ⟨ib, ioff, hpe, hic⟩ := HSt.out.at_ k hkm
              subst hpe
              have hib := World.block_lt_of_cell? wa _ (hic k hkm)
              have hz : col1 ib = 0 := (HA.out ib hib).trans (HIc.out ib ioff rfl)
              have hidc : wr.cell? ⟨ib, ioff + k, none⟩ = some (.string ((IS i).getD k ByteArray.empty)) := HN2.out.cell hz (HTx.out.cell (HIc.out ib ioff rfl) (hic k hkm))
              have hkl : k < (IS i).length := by rw [HSt.out.len]; exact hkm
              have HTk : Hid ((IS i).take (k + 1) = (IS i).take k ++ [(IS i).getD k ByteArray.empty]) := by
                show _ = _
                rw [List.take_succ_eq_append_getElem hkl, getD_eq hkl]
              have hids : ((IS i).getD k ByteArray.empty).size ≤ 1048576 := HSh.out.2 k hkm
              generalize (IS i).getD k ByteArray.empty = id at hidc HTk hids
              have hy0' := HN2.out.cell c6 hx0
              have hy1' := HN2.out.cell c7 hx1
              have hy2' := HN2.out.cell c7 hx2
              clear hic
              go_wp2_with fail
              obtain ⟨col2, ag2, s2, t2⟩ := HN2.out
              have HA2 := hid ag2
              have HSy := hid (s2.grown (World.grownBy_alloc wr (.cells #[.string ty, .string id] 95) none))
              have HTy := hid (t2.grown (World.grownBy_alloc wr (.cells #[.string ty, .string id] 95) none) (fun x e => by cases e))
              have cy6 : col2 g6 = 0 := (ag2 g6 (by omega)).trans c6
              have cy7 : col2 (g6 + 1) = 0 := (ag2 (g6 + 1) (by omega)).trans c7
              have cy9 : col2 wr.heap.size = 0 := s2.clip _ (Nat.le_refl _)
              have hky0 : (wr.alloc (.cells #[.string ty, .string id] 95)).cell? ⟨wr.heap.size, 0, none⟩ = some (.string ty) := by rw [cell_of_row _ _ _ _ _ _ (heap_alloc_new wr _)]; rfl
              have hky1 : (wr.alloc (.cells #[.string ty, .string id] 95)).cell? ⟨wr.heap.size, 1, none⟩ = some (.string id) := by rw [cell_of_row _ _ _ _ _ _ (heap_alloc_new wr _)]; rfl
              have hy1y := cell_add_alloc (o := .cells #[.string ty, .string id] 95) hy1'
              have hy2y := cell_add_alloc (o := .cells #[.string ty, .string id] 95) hy2'
              have hszy : (wr.alloc (.cells #[.string ty, .string id] 95)).heap.size = wr.heap.size + 1 := nblk_alloc _ _
              have hszx : wx.heap.size ≤ wr.heap.size := t2.size
              clear ag2 s2 t2 hy0' hy1' hy2' hidc
              generalize wr.alloc (.cells #[.string ty, .string id] 95) = wy at *
              generalize wr.heap.size = g9 at *
              have HNy := hid (Next.refl HSy.out)
              obtain ⟨v, nn, xs, o1, sp, hent, hown, hnn, hcolv, hfin⟩ := HSy.out.toListed htyz hids (st.length, i)
              obtain ⟨va, vc, rfl⟩ := slice_shape' hown
              have HSl := hid HSy.out.lt
              have hE1 := hent wy rfl
              have hE2 := hent wy.drew rfl
              have hE3 : ∀ o, _ := fun o => hent (wy.alloc o) (blk_alloc_lt _ _ _ HSl.out.2.1)
              have hE4 : ∀ o, _ := fun o => hent (wy.alloc o).drew (blk_alloc_lt _ _ _ HSl.out.2.1)
              simp only [setBlock_drew, setBlock_alloc _ _ _ HSl.out.2.1] at hE2 hE3 hE4
              have hm1y : ∀ b, b ≠ m1 → (ChangeMaps.setBlock wy m1 o1).heap[b]? = wy.heap[b]? := fun b hb => setBlock_other hb
              have nsb8 : some sb ≠ (Value.slice va nn vc).ownBlock := fun e => by have h1 := hcolv sb e.symm; rw [HSy.out.cb] at h1; omega
              have n7 : some (g6 + 1) ≠ (Value.slice va nn vc).ownBlock := fun e => by have h1 := hcolv _ e.symm; omega
              have n9 : some g9 ≠ (Value.slice va nn vc).ownBlock := fun e => by have h1 := hcolv _ e.symm; omega
              have hb1 := (HNy.out.box).1
              have hb1E : (ChangeMaps.setBlock wy m1 o1).cell? ⟨sb, 1, none⟩ = some (.map (some m1)) := by rw [World.cell?_of_block (w := wy) (hm1y sb (fun e => by have h1 := HSy.out.cb; rw [e, HSy.out.c1] at h1; cases h1))]; exact hb1
              have h9 : g9 ≠ m1 := fun e => by rw [e, HSy.out.c1] at cy9; cases cy9
              have h7 : g6 + 1 ≠ m1 := fun e => by rw [e, HSy.out.c1] at cy7; cases cy7
              have hky0E : (ChangeMaps.setBlock wy m1 o1).cell? ⟨g9, 0, none⟩ = some (.string ty) := by rw [World.cell?_of_block (w := wy) (hm1y g9 h9)]; exact hky0
              have hky1E : (ChangeMaps.setBlock wy m1 o1).cell? ⟨g9, 1, none⟩ = some (.string id) := by rw [World.cell?_of_block (w := wy) (hm1y g9 h9)]; exact hky1
              have hy1E : (ChangeMaps.setBlock wy m1 o1).cell? ⟨g6 + 1, 0, none⟩ = some (.int .i64 (st.length : Int)) := by rw [World.cell?_of_block (w := wy) (hm1y (g6 + 1) h7)]; exact hy1y
              have hy2E : (ChangeMaps.setBlock wy m1 o1).cell? ⟨g6 + 1, 1, none⟩ = some (.int .i64 (i : Int)) := by rw [World.cell?_of_block (w := wy) (hm1y (g6 + 1) h7)]; exact hy2y
              have hszE : (ChangeMaps.setBlock wy m1 o1).heap.size = wy.heap.size := setBlock_size _ _ _
              have HOw := hid hown
              have HFi := hid hfin
              have lsb : sb < wy.heap.size := HSl.out.1
              have hBy := HSy.out.below
              have hn8 : nn ≤ 8192 := by
                have h1 := HF.out (i + 1) (by omega)
                rw [HPt.out] at h1
                simp only [List.length_append, List.length_map, List.length_take] at h1 hnn
                omega
              have HE1 : Hid (∀ b, b < wy.heap.size → b ≠ m1 → (ChangeMaps.setBlock wy m1 o1).heap[b]? = wy.heap[b]?) := fun b _ hb => hm1y b hb
              have le1 : sb < (ChangeMaps.setBlock wy m1 o1).heap.size := by omega
              have le2 : g9 < (ChangeMaps.setBlock wy m1 o1).heap.size := by omega
              have le3 : g6 + 1 < (ChangeMaps.setBlock wy m1 o1).heap.size := by omega
              have le4 : B ≤ (ChangeMaps.setBlock wy m1 o1).heap.size := by omega
              have le5 : g9 < wy.heap.size := by omega
              have HszE := hid hszE
              have le6 : wy.heap.size ≤ (ChangeMaps.setBlock wy m1 o1).heap.size := by omega
              clear hszy hszE
              generalize ChangeMaps.setBlock wy m1 o1 = wE at *
              clear hent hown hcolv hfin hm1y
              go_region_held3 (fun w' => w'.cell? ⟨sb, 1, none⟩ = some (.map (some m1)) ∧ w'.cell? ⟨g9, 0, none⟩ = some (.string ty) ∧ w'.cell? ⟨g9, 1, none⟩ = some (.string id) ∧ w'.cell? ⟨g6 + 1, 0, none⟩ = some (.int .i64 (st.length : Int)) ∧ w'.cell? ⟨g6 + 1, 1, none⟩ = some (.int .i64 (i : Int)))
                (first
                  | (go_split_ands
                     refine ⟨?_, ?_, ?_, ?_, ?_⟩
                     all_goals assumption)
                  | (go_split_ands
                     refine ⟨?_, ?_, ?_, ?_, ?_⟩
                     all_goals (exact cell_add_alloc (by assumption)))
                  | (go_split_ands
                     refine ⟨?_, ?_, ?_, ?_, ?_⟩
                     · (rw [hgrow.cell_far _ (by simp; omega) nsb8]; assumption)
                     · (rw [hgrow.cell_far _ (by simp; omega) n9]; assumption)
                     · (rw [hgrow.cell_far _ (by simp; omega) n9]; assumption)
                     · (rw [hgrow.cell_far _ (by simp; omega) n7]; assumption)
                     · (rw [hgrow.cell_far _ (by simp; omega) n7]; assumption)))
                (first
                  | ((refine step_append_lies _ (by rfl) _ _ _ (by rfl) B 100 i100 _ 2 16 Try.underlying93 hinf' hy0 hy1 hy2 rfl (by omega) (.slice va nn vc) nn _ (by rfl) ((HOw.out.alloc _).drew)
                          ⟨wE.heap.size, 0, none⟩ 1 1 [.int .i64 (st.length : Int), .int .i64 (i : Int)] (by rfl) (by rfl) (news_at wE wE.heap.size #[.int .i64 (st.length : Int), .int .i64 (i : Int)] 100 rfl) (one_ref (st.length, i))
                          (by omega) (by simp only [maxLen]; omega) (by omega) (by simp; omega) (wE.heap.size + 1) (by simp) ?_; intro gg cap w1 hown1 hgrow hat hlt1; obtain ⟨w3, hup, hn3⟩ := HFi.out w1 gg cap (grownBy_trans (World.grownBy_alloc wE _ _) (grown_left hgrow)) hown1 (hat.imp (fun h => h) (fun e => by omega)); have hk1 := hn3.box.1; have hk2 := hn3.cell cy9 hky0; have hk5 := hn3.cell cy9 hky1; have hk3 := hn3.cell cy7 hy1y; have hk4 := hn3.cell cy7 hy2y; have HN3 := hid hn3; clear hn3))
                  | ((refine step_append_lies _ (by rfl) _ _ _ (by rfl) B 100 i100 _ 2 16 Try.underlying93 hinf' hy0 hy1 hy2 rfl (by omega) (.slice va nn vc) nn _ (by rfl) ((HOw.out.alloc _).drew)
                          ⟨wy.heap.size, 0, none⟩ 1 1 [.int .i64 (st.length : Int), .int .i64 (i : Int)] (by rfl) (by rfl) (news_at wE wy.heap.size #[.int .i64 (st.length : Int), .int .i64 (i : Int)] 100 HszE.out.symm) (one_ref (st.length, i))
                          (by omega) (by simp only [maxLen]; omega) (by omega) (by simp; omega) (wE.heap.size + 1) (by simp) ?_; intro gg cap w1 hown1 hgrow hat hlt1; obtain ⟨w3, hup, hn3⟩ := HFi.out w1 gg cap (grownBy_trans (World.grownBy_alloc wE _ _) (grown_left hgrow)) hown1 (hat.imp (fun h => h) (fun e => by omega)); have hk1 := hn3.box.1; have hk2 := hn3.cell cy9 hky0; have hk5 := hn3.cell cy9 hky1; have hk3 := hn3.cell cy7 hy1y; have hk4 := hn3.cell cy7 hy2y; have HN3 := hid hn3; clear hn3)))
              all_goals (
                have HR := hid (Next.chain HA2.out HTy.out HN3.out)
                rw [List.append_assoc, ← show ((IS i).take (k + 1)).map (fun x => ((ty, x), (st.length, i))) = ((IS i).take k).map (fun x => ((ty, x), (st.length, i))) ++ [((ty, id), (st.length, i))] by rw [HTk.out, List.map_append]; rfl] at HR
                clear hup hk1 hk2 hk3 hk4 hk5 hown1 hgrow hat hlt1 HN3
                go_wp2
                go_roundw
                case rel => exact ⟨k + 1, by go_num, by omega, HR⟩
                case measure => simp [intOf]; omega)
            · go_wp2
              go_roundw
              case rel =>
                have hR := Next.chain HA.out HTx.out HN2.out
                rw [List.take_of_length_le (by rw [HSt.out.len]; omega), List.append_assoc, ← HPt.out, ← HUt.out] at hR
                exact ⟨i + 1, by go_num, by omega, hR⟩
              case measure => simp [intOf]; omega
      · go_wp2
        have e : i = gn := by omega
        subst e
        go_end0
        exact ⟨rfl, Next.chain (fun _ _ => rfl) HTw.out HN.out⟩
end Go.Proofs.Qxb6602790a
