import Derived.Test.Qxb6602790aQMem
import Derived.Test.Qxb6602790aSort10
namespace Go.Proofs.Qxb6602790a
open Go.RowKit Go.Deep QLaw

/-- What an answer of ask's holds: its values rising, each once: the numbers of vs' values. -/
structure Got (w : World) (ord vs : List ByteArray) (p : Option Addr) (n : Nat) : Prop where
  nums : ∃ zs : List Int, zs.length = n ∧ zs.Pairwise (· < ·) ∧ Numbers ord vs zs ∧ ∀ i, i < n → ∃ b, p = some ⟨b, 0, none⟩ ∧ w.cell? ⟨b, i, none⟩ = some (.int .i32 (zs.getD i 0))
  nil : p = none ↔ n = 0

/-- What ask hands back, and the world behind it. -/
def AskedIn (w : World) (qb mb : Nat) (ord ss : List ByteArray) (e : Ending) (w' : World) : Prop :=
  ∃ (wl : Bool) (p : Option Addr) (n c : Nat), e = .returned (.agg #[.bool wl, .slice p n c]) ∧ (wl = true ↔ star ∈ ss) ∧ n ≤ ss.length ∧ Got w' (fs ord ss) ss p n ∧ Query w' qb mb (fs ord ss) ∧ w.grownBy w' (some mb) ∧
    ∀ b, p = some ⟨b, 0, none⟩ → w.heap.size ≤ b ∧ b < w'.heap.size

set_option maxHeartbeats 1000000 in
theorem compact_nil (w : World) : Calls Try.prog 43 #[.slice none 0 0] w fun x w' => x = .returned (.slice none 0 0) ∧ w' = w := by
  go_enter Try.func43, Try.ntmps43
  go_wp2
  go_ret
  exact ⟨rfl, rfl⟩
theorem one_i32 (i : Int) : ∀ u ∈ [Value.int .i32 i], u.oneCell' = true := by intro u hu; simp at hu; subst hu; rfl
theorem slice_shape {w : World} {base e size n : Nat} {v : Value} {xs : List Value} (h : w.ownsRow base e size v n xs) : ∃ a c, v = .slice a n c := by
  rcases h.2 with ⟨rfl, rfl⟩ | ⟨g, cap, _, rfl, _⟩
  · exact ⟨none, 0, rfl⟩
  · exact ⟨_, cap, rfl⟩
/-- What is handed back, laid into the result's block. -/
theorem ask_end {w wz : World} {qb mb : Nat} {ord ss : List ByteArray} {wl : Bool} {p : Option Addr} {n c : Nat} {f : Nat → Value} (hr : wz.rowIs w.heap.size 78 2 f) (hg : w.grownBy wz (some mb)) (hq : Query wz qb mb (fs ord ss)) (hqb : qb < w.heap.size) (hmb : mb < w.heap.size)
    (hgot : Got wz (fs ord ss) ss p n) (hp : ∀ b, p = some ⟨b, 0, none⟩ → w.heap.size + 2 ≤ b ∧ b < wz.heap.size) (hw : wl = true ↔ star ∈ ss) (hn : n ≤ ss.length) :
    AskedIn w qb mb ord ss (.returned (.agg #[.bool wl, .slice p n c])) (((wz.setCell ⟨w.heap.size + 1, 1, none⟩ (.slice p n c)).setCell ⟨w.heap.size, 0, none⟩ (.bool wl)).setCell ⟨w.heap.size, 1, none⟩ (.slice p n c)) ∧
    (((wz.setCell ⟨w.heap.size + 1, 1, none⟩ (.slice p n c)).setCell ⟨w.heap.size, 0, none⟩ (.bool wl)).setCell ⟨w.heap.size, 1, none⟩ (.slice p n c)).cell? ⟨w.heap.size, 0, none⟩ = some (.bool wl) ∧
    (((wz.setCell ⟨w.heap.size + 1, 1, none⟩ (.slice p n c)).setCell ⟨w.heap.size, 0, none⟩ (.bool wl)).setCell ⟨w.heap.size, 1, none⟩ (.slice p n c)).cell? ⟨w.heap.size, 1, none⟩ = some (.slice p n c) := by
  have r := ((hr.setOther (a := ⟨w.heap.size + 1, 1, none⟩) (by show w.heap.size ≠ w.heap.size + 1; omega) (.slice p n c)).set 0 (.bool wl)).set 1 (.slice p n c)
  refine ⟨⟨wl, p, n, c, rfl, hw, hn, ⟨?_, hgot.nil⟩, ?_, ?_, fun b e => ?_⟩, ?_, ?_⟩
  · obtain ⟨zs, h1, h2, h3, h4⟩ := hgot.nums
    refine ⟨zs, h1, h2, h3, fun i hi => ?_⟩
    obtain ⟨b, e, hc⟩ := h4 i hi
    have hb := (hp b e).1
    refine ⟨b, e, ?_⟩
    have : ∀ (wx : World) (a : Addr) (v : Value), a.block < w.heap.size + 2 → (wx.setCell a v).cell? ⟨b, i, none⟩ = wx.cell? ⟨b, i, none⟩ := fun wx a v ha => World.cell?_of_block (w := wx) (blk_setCell_other _ _ _ _ (by show b ≠ a.block; omega))
    rw [this _ _ _ (by show w.heap.size < _; omega), this _ _ _ (by show w.heap.size < _; omega), this _ _ _ (by show w.heap.size + 1 < _; omega)]
    exact hc
  · exact ((hq.setCell (by show qb ≠ w.heap.size + 1; omega) (by show mb ≠ w.heap.size + 1; omega) _).setCell (by show qb ≠ w.heap.size; omega) (by show mb ≠ w.heap.size; omega) _).setCell (by show qb ≠ w.heap.size; omega) (by show mb ≠ w.heap.size; omega) _
  · exact AskMem.grown_set (AskMem.grown_set (AskMem.grown_set hg (by show w.heap.size ≤ w.heap.size + 1; omega) _) (Nat.le_refl _) _) (Nat.le_refl _) _
  · have := hp b e
    rw [nblk_setCell, nblk_setCell, nblk_setCell]
    exact ⟨by omega, this.2⟩
  · have := r.cell (i := 0) (by omega)
    simpa using this
  · have := r.cell (i := 1) (by omega)
    simpa using this

theorem mem_zs (zs : List Int) (z : Int) : (∃ j, j < zs.toArray.size ∧ zs.toArray[j]! = z) ↔ z ∈ zs := mem_get zs.toArray z
/-- What slices.Compact keeps of what slices.Sort has left. -/
theorem kept_facts (d : Array Int) (m : Nat) (hm : d.size = m) (hs : Sort.SortedIn Sort.ltInt 0 d.size d) (zs : List Int) (hz : zs = Lib.compactUpTo d m) :
    zs.Pairwise (· < ·) ∧ (∀ z, z ∈ zs ↔ ∃ j, j < m ∧ d[j]! = z) ∧ (0 < m → 0 < zs.length) ∧ zs.length ≤ m := by
  subst hm
  subst hz
  refine ⟨kept_rising d hs, kept_mem d, fun h => ?_, ?_⟩
  · exact List.length_pos_of_mem ((kept_mem d d[0]!).2 ⟨0, h, rfl⟩)
  · unfold Lib.compactUpTo
    rw [List.length_map]
    exact Nat.le_trans (List.length_filter_le _ _) (by simp)

theorem Try.info21' : (Try.prog.info? 21).map (fun i => (i.zero, i.size, i.bytes)) = some (some (.int .i32 0), 1, 4) := by kernel_rfl

set_option maxHeartbeats 8000000 in
set_option maxRecDepth 100000 in
theorem ask_w (qb mb : Nat) (ord : List ByteArray) (p : Option Addr) (n c : Nat) (ss : List ByteArray) (w : World) (hq : Query w qb mb ord) (hg : QLaw.Good ord) (hs : Strs w p n ss) (hS : Short n ss) (hm : ord.length + n ≤ 8192) (hmb : mb < w.heap.size) (hpm : ∀ b off, p = some ⟨b, off, none⟩ → b ≠ mb) :
    Calls Try.prog 38 #[.pointer (some ⟨qb, 0, none⟩), .slice p n c] w fun e w' => AskedIn w qb mb ord ss e w' := by
  obtain ⟨i0, hinf, hi0⟩ := Option.map_eq_some_iff.1 Try.info21'
  simp only [Prod.mk.injEq] at hi0
  obtain ⟨hz0, hz1, hz2⟩ := hi0
  have HQ := hid hq
  have HGd := hid hg
  have HS := hid hs
  have HSh := hid hS.2
  have HL := hid hs.len
  have hqb : qb < w.heap.size := World.block_lt_of_cell? w _ hq.cell
  have HPM := hid hpm
  clear hq hg hs hS hpm
  generalize hLo : ord.length = Lo at hm
  have HLo := hid hLo
  clear hLo
  have HM0 : Hid (AskMem w ((w.alloc (.cells #[.bool false, .slice none 0 0] 78)).alloc (.cells #[.bool false, .slice none 0 0] 78)) mb false 0 [] none 0) := by
    have r1 := World.rowIs_alloc w #[.bool false, .slice none 0 0] 78 (fun i => if i = 0 then .bool false else .slice none 0 0) (fun i hi => by
      rcases (show i = 0 ∨ i = 1 by simp at hi; omega) with rfl | rfl <;> rfl)
    have r2 := World.rowIs_alloc (w.alloc (.cells #[.bool false, .slice none 0 0] 78)) #[.bool false, .slice none 0 0] 78 (fun i => if i = 0 then .bool false else .slice none 0 0) (fun i hi => by
      rcases (show i = 0 ∨ i = 1 by simp at hi; omega) with rfl | rfl <;> rfl)
    rw [nblk_alloc] at r2
    exact ⟨rfl, World.ownsRow_nil _ _ _ _, r2, r1.alloc _, grownBy_alloc' (World.grownBy_alloc w _ _) _, hmb, fun _ => ⟨rfl, rfl⟩⟩
  go_enter Try.func38, Try.ntmps38
  go_wp2
  go_loopw [12] (fun vk wr => ∃ (k m : Nat) (wl : Bool) (zs : List Int) (va : Option Addr) (vc : Nat), vk = .int .i64 k ∧ k ≤ n ∧ m ≤ k ∧ Hid (AskMem w wr mb wl m zs va vc) ∧ Hid (Query wr qb mb (fs ord (ss.take k))) ∧
      Hid (Numbers (fs ord (ss.take k)) (ss.take k) zs) ∧ Hid (wl = true ↔ star ∈ ss.take k)) (fun vk _ => n - (intOf vk).toNat)
  case atStart => exact ⟨0, 0, false, [], none, 0, rfl, Nat.zero_le _, Nat.le_refl _, HM0, (HQ.out.alloc _).alloc _, Numbers.nil _, by show _ ↔ _; simp⟩
  case round =>
    clear HM0
    obtain ⟨k, m, wl, zs, va, vc, rfl, hk, hmk, HM, HQk, HN, HW⟩ := hrel
    by_cases hlt : k < n
    · have hkl : k < ss.length := by rw [HL.out]; exact hlt
      have HST : Hid (Strs wr p n ss) := HS.out.kept HM.out.grown (fun b off e => by have := HPM.out b off e; simpa using this)
      obtain ⟨b, off, hpe, hc⟩ := HST.out.at_ k hlt
      subst hpe
      have hcell := hc k hlt
      have hsz := HSh.out k hlt
      clear hc
      have HT : Hid (fs ord (ss.take (k + 1)) = QLaw.step (fs ord (ss.take k)) (ss.getD k ByteArray.empty)) := by
        show _ = _
        rw [fs_take ord ss k hkl, getD_eq hkl]
      have HT2 : Hid (ss.take (k + 1) = ss.take k ++ [ss.getD k ByteArray.empty]) := by
        show _ = _
        rw [List.take_succ_eq_append_getElem hkl, getD_eq hkl]
      generalize ss.getD k ByteArray.empty = s at hcell HT HT2 hsz
      have hsm : s.size ≤ maxLen := by simp only [maxLen]; omega
      have HSM := hid hsm
      clear hsm
      have HGk := hid (HGd.out.fs (ss.take k))
      have HLk : Hid ((fs ord (ss.take k)).length ≤ Lo + k) := by
        have := fs_length (ss.take k) ord
        rw [HLo.out, List.length_take] at this
        show _ ≤ _
        omega
      have hac := HM.out.acell.cell (i := 1) (by omega)
      have haf := HM.out.acell.frozen 0
      have haf1 := HM.out.acell.frozen 1
      have hac0 := HM.out.acell.cell (i := 0) (by omega)
      simp only [if_true, Nat.one_ne_zero, if_false] at hac hac0
      have hqc := HQk.out.cell
      cases hb : (s.toList == star.toList) with
      | true =>
        obtain rfl := (beq_bytes _ _).1 hb
        have hb2 : (star.toList == [42]) = true := by rw [← star_bytes]; exact hb
        clear hb
        have HN2 := hid (HN.out.star HGk.out)
        rw [← HT.out, ← HT2.out] at HN2
        have HQ2 : Hid (Query (wr.setCell ⟨w.heap.size + 1, 0, none⟩ (.bool true)) qb mb (fs ord (ss.take (k + 1)))) := by
          rw [HT.out, step_old (.inl rfl)]
          exact HQk.out.setCell (by show qb ≠ w.heap.size + 1; omega) (by show mb ≠ w.heap.size + 1; omega) _
        have HW2 : Hid (true = true ↔ star ∈ ss.take (k + 1)) := by rw [HT2.out]; show _ ↔ _; simp
        have HM2 := hid HM.out.wild
        go_wp2
        go_roundw
        case rel => exact ⟨k + 1, m, true, zs, va, vc, by go_num, by omega, by omega, HM2, HQ2, HN2, HW2⟩
        case measure => simp [intOf]; omega
      | false =>
        have hne := (beq_bytes_false _ _).1 hb
        have hb2 : (s.toList == [42]) = false := by rw [← star_bytes]; exact hb
        clear hb
        have HW2 : Hid (wl = true ↔ star ∈ ss.take (k + 1)) := by
          rw [HT2.out]
          show _ ↔ _
          rw [HW.out, List.mem_append, List.mem_singleton]
          exact ⟨.inl, fun h => h.resolve_right (fun e => hne e.symm)⟩
        have HNE := hid hne
        clear hne
        by_cases hmem : s ∈ fs ord (ss.take k)
        · obtain ⟨i, hi⟩ := List.mem_iff_getElem?.1 hmem
          have hlk := HQk.out.seen hi HSM.out
          have HI := hid hi
          have hil : i < Lo + k := by have h1 := (List.getElem?_eq_some_iff.1 hi).1; have h2 := HLk.out; omega
          have HMq := HM
          have HQq := HQk
          clear hi hmem
          go_wp2_with (at_builtin; refine wpList_append_own_at _ rfl (.tmp 43) (.tmp 45) 29 rfl (w.heap.size + 2) 21 i0 (.int .i32 0) 1 4 Try.underlying29 hinf hz0 hz1 hz2 rfl (by decide) _ _ _ rfl (HMq.out.vals.alloc _) ⟨wr.heap.size, 0, none⟩ 1 1 [.int .i32 (i : Int)] rfl rfl (cell_one_new _ _ _) (one_i32 _) (by unfold maxLen; omega) (by omega) (by have := HMq.out.acell.lt; rw [nblk_alloc]; omega) ?_)
          intro v4 w4 hown4 hgrow4 _ _
          obtain ⟨va', vc', hv4⟩ := slice_shape hown4
          subst hv4
          have HMp := hid (HMq.out.push hgrow4 hown4)
          have c4 := rowIs_grown (HMq.out.acell.alloc _) hgrow4 (HMq.out.own_ne (by omega))
          have f7 := c4.frozen 1
          have c7 := c4.cell (i := 1) (by omega)
          simp only [Nat.one_ne_zero, if_false] at c7
          have HQp : Hid (Query (w4.setCell ⟨w.heap.size + 1, 1, none⟩ (.slice va' (m + 1) vc')) qb mb (fs ord (ss.take (k + 1)))) := by
            rw [HT.out, step_old (.inr (List.mem_of_getElem? HI.out))]
            exact (((HQq.out.alloc _).kept hgrow4 (HMq.out.own_ne (by omega)) (HMq.out.own_ne (by omega))).setCell (by show qb ≠ w.heap.size + 1; omega) (by show mb ≠ w.heap.size + 1; omega) _)
          have HNp := hid (HN.out.seen HGk.out HI.out)
          rw [← HT.out, ← HT2.out] at HNp
          clear hown4 hgrow4 c4 HMq HQq
          go_wp2
          go_roundw
          case rel => exact ⟨k + 1, m + 1, wl, _, va', vc', by go_num, by omega, by omega, HMp, HQp, HNp, HW2⟩
          case measure => simp [intOf]; omega
        · have hlk := HQk.out.unseen hmem HSM.out
          have hln := HQk.out.len
          obtain ⟨wq, hup, hQ2, hg2⟩ := HQk.out.store HSM.out hmem (by have := HLk.out; omega)
          have HMq := hid (HM.out.turn hg2)
          have HQq := hid hQ2
          have hqa := HMq.out.acell.cell (i := 1) (by omega)
          simp only [Nat.one_ne_zero, if_false] at hqa
          have HNI := hid hmem
          have hle := HLk.out
          have hwsz : wq.heap.size + 0 = wq.heap.size := rfl
          obtain ⟨Lk, hLk⟩ : ∃ Lk, Lk = (fs ord (ss.take k)).length := ⟨_, rfl⟩
          rw [← hLk] at hln hup hle
          have HLK := hid hLk
          clear hQ2 hg2 hmem hLk hwsz
          go_wp2_with (at_builtin; refine wpList_append_own_at _ rfl (.tmp 43) (.tmp 45) 29 rfl (w.heap.size + 2) 21 i0 (.int .i32 0) 1 4 Try.underlying29 hinf hz0 hz1 hz2 rfl (by decide) _ _ _ rfl (HMq.out.vals.alloc _) ⟨wq.heap.size, 0, none⟩ 1 1 [.int .i32 (Lk : Int)] rfl rfl (cell_one_new _ _ _) (one_i32 _) (by unfold maxLen; omega) (by omega) (by have := HMq.out.acell.lt; rw [nblk_alloc]; omega) ?_)
          intro v4 w4 hown4 hgrow4 _ _
          obtain ⟨va', vc', hv4⟩ := slice_shape hown4
          subst hv4
          have HMp := hid (HMq.out.push hgrow4 hown4)
          have c4 := rowIs_grown (HMq.out.acell.alloc _) hgrow4 (HMq.out.own_ne (by omega))
          have f7 := c4.frozen 1
          have c7 := c4.cell (i := 1) (by omega)
          simp only [Nat.one_ne_zero, if_false] at c7
          have HQp : Hid (Query (w4.setCell ⟨w.heap.size + 1, 1, none⟩ (.slice va' (m + 1) vc')) qb mb (fs ord (ss.take (k + 1)))) := by
            rw [HT.out, step_new (by rintro (h | h); exact HNE.out h; exact HNI.out h)]
            exact (((HQq.out.alloc _).kept hgrow4 (HMq.out.own_ne (by omega)) (HMq.out.own_ne (by omega))).setCell (by show qb ≠ w.heap.size + 1; omega) (by show mb ≠ w.heap.size + 1; omega) _)
          have HNp := hid ((HN.out.fresh HNE.out HNI.out : Numbers _ _ (zs ++ [((fs ord (ss.take k)).length : Int)])))
          rw [← HT.out, ← HT2.out, ← HLK.out] at HNp
          clear hown4 hgrow4 c4 HMq HQq
          go_wp2
          go_roundw
          case rel => exact ⟨k + 1, m + 1, wl, _, va', vc', by go_num, by omega, by omega, HMp, HQp, HNp, HW2⟩
          case measure => simp [intOf]; omega
    · have e : ss.take k = ss := List.take_of_length_le (by rw [HL.out]; omega)
      have HQe : Hid (Query wr qb mb (fs ord ss)) := by have := HQk; rw [e] at this; exact this
      have HNe : Hid (Numbers (fs ord ss) ss zs) := by have := HN; rw [e] at this; exact this
      have HWe : Hid (wl = true ↔ star ∈ ss) := by have := HW; rw [e] at this; exact this
      clear e HQk HN HW
      have hac := HM.out.acell.cell (i := 1) (by omega)
      have hac0 := HM.out.acell.cell (i := 0) (by omega)
      have haf := HM.out.acell.frozen 1
      have hrf0 := HM.out.rcell.frozen 0
      have hrf1 := HM.out.rcell.frozen 1
      have hrc0 := HM.out.rcell.cell (i := 0) (by omega)
      have hrc1 := HM.out.rcell.cell (i := 1) (by omega)
      simp only [if_true, Nat.one_ne_zero, if_false] at hac hac0 hrc0 hrc1
      rcases Nat.eq_zero_or_pos m with hm0 | hmp
      · obtain ⟨hv1, hv2⟩ := HM.out.nil hm0
        subst hv1; subst hv2; subst hm0
        obtain rfl : zs = [] := List.eq_nil_of_length_eq_zero HM.out.len
        go_wp2_with fail
        refine (sort_nil _).mono ?_
        rintro x w2 ⟨rfl, rfl⟩
        go_wp2_with fail
        refine (compact_nil _).mono ?_
        rintro x w3 ⟨rfl, rfl⟩
        go_wp2
        have HM3 := HM.out.rcell
        have HG3 := HM.out.grown
        have HQ3 := HQe.out
        have HGot : Got w3 (fs ord ss) ss none 0 := ⟨⟨[], rfl, List.Pairwise.nil, HNe.out, fun i hi => absurd hi (by omega)⟩, by simp⟩
        have HP3 : ∀ b, (none : Option Addr) = some ⟨b, 0, none⟩ → w.heap.size + 2 ≤ b ∧ b < w3.heap.size := fun b e => by cases e
        have HN3 : 0 ≤ ss.length := Nat.zero_le _
        have K := hid (ask_end HM3 HG3 HQ3 hqb hmb HGot HP3 HWe.out HN3 (c := 0))
        generalize (((w3.setCell ⟨w.heap.size + 1, 1, none⟩ (.slice none 0 0)).setCell ⟨w.heap.size, 0, none⟩ (.bool wl)).setCell ⟨w.heap.size, 1, none⟩ (.slice none 0 0)) = wf at K ⊢
        obtain ⟨kA, k0, k1⟩ := K.out
        clear K
        have KA := hid kA
        clear kA
        exact bodyPost_ret (v := .agg #[.bool wl, .slice none 0 0]) (by simp [results, Try.f38, go_sem, k0, k1]) rfl KA.out
      · obtain ⟨g, hva, hgb, hmv, hvm, hsat⟩ := HM.out.sat hmp
        subst hva
        have HLZ := hid HM.out.len
        have CS := hid (sort_w wr g vc 0 vc m zs.toArray wr hsat (by simpa using HM.out.len) (by simp only [maxLen] at hvm; omega))
        clear hsat
        have hgw : g < wr.heap.size := (HM.out.vals.lt g rfl).2
        have hnb : ∀ b, b < w.heap.size + 2 → some b ≠ some g := fun b hb => by simp; omega
        have HNB := hid hnb
        clear hnb
        go_wp2_with fail
        refine CS.out.mono ?_
        rintro x w2 ⟨rfl, d', hsd, hat⟩
        have r2 := rowIs_grown HM.out.acell hat.grown (HNB.out _ (by omega))
        have hac2 := r2.cell (i := 1) (by omega)
        simp only [Nat.one_ne_zero, if_false] at hac2
        have HZ : d'.size = m := by rw [hsd.1]; simpa using HM.out.len
        have CC := hid (compact_w wr g vc 0 vc d' w2 hat (by simp only [maxLen] at hvm; omega) (by omega))
        rw [HZ] at CC
        have HSD := hid hsd
        have HAT := hid hat
        have HZZ := hid HZ
        clear hsd hat HZ r2 CS hac hac0 haf hrf0 hrf1 hrc0 hrc1
        go_wp2_with fail
        refine CC.out.mono ?_
        clear CC
        rintro x w3 ⟨rfl, d2, hd2, hd3, hat3⟩
        have r3 := rowIs_grown HM.out.acell hat3.grown (HNB.out _ (by omega))
        have q3 := rowIs_grown HM.out.rcell hat3.grown (HNB.out _ (by omega))
        have hac0 := r3.cell (i := 0) (by omega)
        have hac := r3.cell (i := 1) (by omega)
        have haf := r3.frozen 1
        have hrf0 := q3.frozen 0
        have hrf1 := q3.frozen 1
        have hrc0 := q3.cell (i := 0) (by omega)
        have hrc1 := q3.cell (i := 1) (by omega)
        simp only [if_true, Nat.one_ne_zero, if_false] at hac hac0 hrc0 hrc1
        obtain ⟨zs2, hz2e⟩ : ∃ zs2, zs2 = Lib.compactUpTo d' m := ⟨_, rfl⟩
        rw [← hz2e] at hd3 ⊢
        have HZ2 := hid hz2e
        have HD2 := hid hd2
        have HD3 := hid hd3
        have HAT3 := hid hat3
        clear hd2 hd3 hat3 hz2e
        obtain ⟨n2, hn2⟩ : ∃ n2, n2 = zs2.length := ⟨_, rfl⟩
        rw [← hn2]
        have HN2 := hid hn2
        clear hn2
        go_wp2
        have hg3 : w.grownBy w3 (some mb) := by
          have h1 := HM.out.grown
          have h2 := HAT3.out.grown
          exact ⟨h2.os.trans h1.os, h2.tape.trans h1.tape, h2.output.trans h1.output, Nat.le_trans h1.size h2.size, fun j hj hn => (h2.block j (Nat.lt_of_lt_of_le hj h1.size) (HNB.out j (by omega))).trans (h1.block j hj hn)⟩
        have HM3 := q3
        have HG3 := hg3
        have HQ3 : Query w3 qb mb (fs ord ss) := HQe.out.kept HAT3.out.grown (HNB.out qb (by omega)) (HNB.out mb (by omega))
        have hfacts := kept_facts d' m HZZ.out (HSD.out.2.1) zs2 HZ2.out
        have HGot : Got w3 (fs ord ss) ss (some ⟨g, 0, none⟩) n2 := by
          refine ⟨⟨zs2, HN2.out.symm, hfacts.1, fun z => ?_, fun i hi => ⟨g, rfl, ?_⟩⟩, ?_⟩
          · rw [← HNe.out z, hfacts.2.1 z, ← HZZ.out, HSD.out.2.2 z]
            exact mem_zs zs z
          · have hi2 : i < zs2.length := by rw [← HN2.out]; exact hi
            have hi3 : i < d2.size := by have h1 := HD2.out; have h2 := HZZ.out; have h3 := hfacts.2.2.2; omega
            have := HAT3.out.cell (i := i) hi3
            rw [Nat.zero_add, HD3.out i hi2] at this
            exact this
          · have h3 := hfacts.2.2.1 hmp
            constructor
            · intro h; cases h
            · intro h; rw [HN2.out] at h; omega
        have HP3 : ∀ b, some (⟨g, 0, none⟩ : Addr) = some ⟨b, 0, none⟩ → w.heap.size + 2 ≤ b ∧ b < w3.heap.size := fun b e => by
          injection e with e
          injection e with e
          subst e
          exact ⟨hgb, Nat.lt_of_lt_of_le hgw HAT3.out.grown.size⟩
        have HN3 : n2 ≤ ss.length := by
          have h3 := hfacts.2.2.2
          rw [HN2.out, HL.out]
          omega
        have K := hid (ask_end HM3 HG3 HQ3 hqb hmb HGot HP3 HWe.out HN3 (c := vc))
        generalize (((w3.setCell ⟨w.heap.size + 1, 1, none⟩ (.slice (some ⟨g, 0, none⟩) n2 vc)).setCell ⟨w.heap.size, 0, none⟩ (.bool wl)).setCell ⟨w.heap.size, 1, none⟩ (.slice (some ⟨g, 0, none⟩) n2 vc)) = wf at K ⊢
        obtain ⟨kA, k0, k1⟩ := K.out
        clear K
        have KA := hid kA
        clear kA
        exact bodyPost_ret (v := .agg #[.bool wl, .slice (some ⟨g, 0, none⟩) n2 vc]) (by simp [results, Try.f38, go_sem, k0, k1]) rfl KA.out
end Go.Proofs.Qxb6602790a
