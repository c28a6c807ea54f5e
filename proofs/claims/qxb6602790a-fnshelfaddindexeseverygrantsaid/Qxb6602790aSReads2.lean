import Derived.Test.Qxb6602790aSReads
import Derived.BigQuiet
namespace Go.Proofs.Qxb6602790a
open Go.RowKit Go.Deep SLaw

theorem grownBy_drewN {a b : World} {row : Option Nat} (h : a.grownBy b row) (n : Nat) : a.grownBy (b.drewN n) row := ⟨h.os, h.tape, h.output, h.size, h.block⟩

set_option maxHeartbeats 2000000 in
set_option maxRecDepth 100000 in
theorem shelfSet_w {w : World} {B sb m1 m2 : Nat} {col : Nat → Nat} {st : List Sto} {F U : List (K × R)} (h : Shelf w B sb m1 m2 col st F U) (j : Nat) (s : Sto) (hj : st[j]? = some s) :
    Calls Try.prog 30 #[.pointer (some ⟨sb, 0, none⟩), .int .i64 (j : Int)] w fun e w' => e = .returned (.tuple #[.int .i64 s.nb, .int .i64 s.na, .int .i64 s.dp, .slice s.lp s.ln s.lc, .int .i64 (s.gn : Int)]) ∧ w.grownBy w' none := by
  obtain ⟨g, cap, hc, h0, h1, h2, h3, h4⟩ := h.setAt hj
  have hjl : j < st.length := (List.getElem?_eq_some_iff.1 hj).1
  clear h hj
  go_enter Try.func30, Try.ntmps30
  go_wp2_with fail
  go_quiet (fail)
  go_wp2
  refine bodyPost_ret (v := .tuple #[.int .i64 s.nb, .int .i64 s.na, .int .i64 s.dp, .slice s.lp s.ln s.lc, .int .i64 (s.gn : Int)]) (by simp [results, Try.f30, go_sem]) rfl ?_
  exact ⟨rfl, grownBy_drewN (World.grownBy_alloc w _ none) _⟩

set_option maxHeartbeats 4000000 in
set_option maxRecDepth 100000 in
theorem sameStrings_w (p q : Option Addr) (n c c' : Nat) (ss : List ByteArray) (w : World) (h : Strs w p n ss) (h' : Strs w q n ss) (hn : n ≤ 1048576) (hpq : p = none ↔ q = none) :
    Calls Try.prog 31 #[.slice p n c, .slice q n c'] w fun e w' => e = .returned (.bool true) ∧ w.grownBy w' none := by
  have hq1 := fun w => Lib.run_eql_slice_nil (P := Try.prog) w 22 9 p n c 0 0 Try.underlying22
  have hq2 := fun w => Lib.run_eql_slice_nil (P := Try.prog) w 22 9 q n c' 0 0 Try.underlying22
  have hb : p.isNone = q.isNone := by
    cases p <;> cases q <;> simp_all
  rw [hb] at hq1
  have H := hid h
  have H' := hid h'
  clear h h' hpq hb
  generalize q.isNone = bn at hq1 hq2
  go_enter Try.func31, Try.ntmps31
  go_wp2
  go_loopw [20] (fun vi wr => ∃ i : Nat, vi = .int .i64 i ∧ i ≤ n ∧ Hid (w.grownBy wr none)) (fun vi _ => n - (intOf vi).toNat)
  case atStart => exact ⟨0, rfl, Nat.zero_le _, grownBy_refl _ _⟩
  case round =>
    obtain ⟨i, rfl, hi, HG⟩ := hrel
    by_cases hlt : i < n
    · have HS : Hid (Strs wr p n ss) := H.out.kept HG.out (by simp)
      have HS' : Hid (Strs wr q n ss) := H'.out.kept HG.out (by simp)
      obtain ⟨b, off, hpe, hc⟩ := HS.out.at_ i hlt
      obtain ⟨b', off', hpe', hc'⟩ := HS'.out.at_ i hlt
      subst hpe
      subst hpe'
      have k := hc i hlt
      have k' := hc' i hlt
      clear hc hc'
      generalize ss.getD i ByteArray.empty = s at k k'
      have hss : (s.toList == s.toList) = true := (beq_bytes s s).2 rfl
      go_wp2_with fail
      go_quiet (fail)
      go_wp2
      go_roundw
      case rel => exact ⟨i + 1, by go_num, by omega, grownBy_drewN HG.out _⟩
      case measure => simp [intOf]; omega
    · go_wp2
      go_ret
      exact ⟨rfl, HG.out⟩

set_option maxHeartbeats 2000000 in
set_option maxRecDepth 100000 in
theorem shelfGrant_w {w : World} {B sb m1 m2 : Nat} {col : Nat → Nat} {st : List Sto} {F U : List (K × R)} (h : Shelf w B sb m1 m2 col st F U) (j : Nat) (s : Sto) (hj : st[j]? = some s)
    {T : Nat → ByteArray} {A : Nat → Bool} {ip : Nat → Option Addr} {inn ic : Nat → Nat} {IS : Nat → List ByteArray} {gn : Nat} (hgn : s.gn = gn) (hg : Grants w col s.gp gn T A ip inn ic IS) (i : Nat) (hi : i < gn) :
    Calls Try.prog 32 #[.pointer (some ⟨sb, 0, none⟩), .int .i64 (j : Int), .int .i64 (i : Int)] w fun e w' => e = .returned (.tuple #[.string (T i), .bool (A i), .slice (ip i) (inn i) (ic i)]) ∧ w.grownBy w' none := by
  obtain ⟨g, cap, hc, h0, h1, h2, h3, h4⟩ := h.setAt hj
  have hjl : j < st.length := (List.getElem?_eq_some_iff.1 hj).1
  obtain ⟨gb, hpe, _, hcl⟩ := hg.cells i hi
  rw [hpe, hgn] at h4
  clear h hj hg h0 h1 h2 h3
  have hq0 : w.cell? ⟨gb, i * 10, none⟩ = some (.string (T i)) := hcl 0 (by omega)
  have hq1 : w.cell? ⟨gb, i * 10 + 1, none⟩ = some (.bool (A i)) := hcl 1 (by omega)
  have hq2 : w.cell? ⟨gb, i * 10 + 2, none⟩ = some (.slice (ip i) (inn i) (ic i)) := hcl 2 (by omega)
  have hq3 : w.cell? ⟨gb, i * 10 + 3, none⟩ = some (.bool false) := hcl 3 (by omega)
  have hq4 : w.cell? ⟨gb, i * 10 + 4, none⟩ = some (.slice none 0 0) := hcl 4 (by omega)
  have hq5 : w.cell? ⟨gb, i * 10 + 5, none⟩ = some (.bool false) := hcl 5 (by omega)
  have hq6 : w.cell? ⟨gb, i * 10 + 6, none⟩ = some (.slice none 0 0) := hcl 6 (by omega)
  have hq7 : w.cell? ⟨gb, i * 10 + 7, none⟩ = some (.bool false) := hcl 7 (by omega)
  have hq8 : w.cell? ⟨gb, i * 10 + 8, none⟩ = some (.slice none 0 0) := hcl 8 (by omega)
  have hq9 : w.cell? ⟨gb, i * 10 + 9, none⟩ = some (.slice none 0 0) := hcl 9 (by omega)
  clear hcl
  go_enter Try.func32, Try.ntmps32
  go_wp2_with fail
  go_quiet (fail)
  go_wp2
  refine bodyPost_ret (v := .tuple #[.string (T i), .bool (A i), .slice (ip i) (inn i) (ic i)]) (by simp [results, Try.f32, go_sem]) rfl ?_
  exact ⟨rfl, grownBy_drewN (World.grownBy_alloc w _ none) _⟩

theorem Try.info3 : (Try.prog.info? 3).map (fun i => (i.zero, i.size, i.bytes)) = some (some (.int .i64 0), 1, 8) := by kernel_rfl

/-- Two rows: the refs' sets, their grants. -/
structure TwoRows (w : World) (rs : List R) (n b1 b2 : Nat) : Prop where
  sets : ∀ i, i < n → w.cell? ⟨b1, i, none⟩ = some (.int .i64 ((rs.getD i (0, 0)).1 : Int))
  grants : ∀ i, i < n → w.cell? ⟨b2, i, none⟩ = some (.int .i64 ((rs.getD i (0, 0)).2 : Int))
def GotRefs (w : World) (rs : List R) (e : Ending) (w' : World) : Prop :=
  ∃ b1 b2, e = .returned (.tuple #[.slice (some ⟨b1, 0, none⟩) rs.length rs.length, .slice (some ⟨b2, 0, none⟩) rs.length rs.length]) ∧ TwoRows w' rs rs.length b1 b2 ∧ w.grownBy w' none
/-- zzRefs' memory in its loop. -/
structure RefMem (w wr : World) (rs : List R) (n b1 b2 k : Nat) : Prop where
  r1 : ∃ f, wr.rowIs b1 3 n f ∧ ∀ i, i < k → f i = .int .i64 ((rs.getD i (0, 0)).1 : Int)
  r2 : ∃ f, wr.rowIs b2 3 n f ∧ ∀ i, i < k → f i = .int .i64 ((rs.getD i (0, 0)).2 : Int)
  grown : w.grownBy wr none
  h1 : w.heap.size ≤ b1
  h2 : w.heap.size ≤ b2
  ne : b1 ≠ b2
theorem RefMem.step {w wr : World} {rs : List R} {n b1 b2 k : Nat} (h : RefMem w wr rs n b1 b2 k) :
    RefMem w ((wr.setCell ⟨b1, k, none⟩ (.int .i64 ((rs.getD k (0, 0)).1 : Int))).setCell ⟨b2, k, none⟩ (.int .i64 ((rs.getD k (0, 0)).2 : Int))) rs n b1 b2 (k + 1) := by
  obtain ⟨f, hf, hf'⟩ := h.r1
  obtain ⟨g, hg, hg'⟩ := h.r2
  refine ⟨⟨_, (hf.set k _).setOther (a := ⟨b2, k, none⟩) h.ne _, fun i hi => ?_⟩, ⟨_, (hg.setOther (a := ⟨b1, k, none⟩) (Ne.symm h.ne) _).set k _, fun i hi => ?_⟩, ?_, h.h1, h.h2, h.ne⟩
  · by_cases e : i = k
    · rw [if_pos e, e]
    · rw [if_neg e, hf' i (by omega)]
  · by_cases e : i = k
    · rw [if_pos e, e]
    · rw [if_neg e, hg' i (by omega)]
  · have a1 := h.h1
    have a2 := h.h2
    refine ⟨h.grown.os, h.grown.tape, h.grown.output, by rw [nblk_setCell, nblk_setCell]; exact h.grown.size, fun q hq hn => ?_⟩
    rw [blk_setCell_other _ _ _ _ (by show q ≠ b2; omega), blk_setCell_other _ _ _ _ (by show q ≠ b1; omega)]
    exact h.grown.block q hq hn

set_option maxHeartbeats 4000000 in
set_option maxRecDepth 100000 in
theorem zzRefs_w (B : Nat) (v : Value) (rs : List R) (w : World) (h : w.ownsRow B 100 2 v rs.length (refCells rs)) (hn : rs.length ≤ 8192) :
    Calls Try.prog 41 #[v] w fun e w' => GotRefs w rs e w' := by
  obtain ⟨p, c, rfl⟩ := slice_shape' h
  have hcell : ∀ i, i < rs.length → ∃ g, p = some ⟨g, 0, none⟩ ∧ g < w.heap.size ∧ w.cell? ⟨g, i * 2, none⟩ = some (.int .i64 ((rs.getD i (0, 0)).1 : Int)) ∧ w.cell? ⟨g, i * 2 + 1, none⟩ = some (.int .i64 ((rs.getD i (0, 0)).2 : Int)) := fun i hi => by
    obtain ⟨g, cap, hv, _, hlt⟩ := h.form (by omega)
    injection hv with h1 h2 h3
    subst h1; subst h3
    obtain ⟨k1, k2⟩ := refCells_get rs i rs[i] (List.getElem?_eq_getElem hi)
    have e : rs.getD i (0, 0) = rs[i] := by rw [List.getD_eq_getElem?_getD, List.getElem?_eq_getElem hi]; rfl
    refine ⟨g, rfl, hlt, ?_, ?_⟩
    · rw [h.cellAt (i * 2) (by omega), Nat.mul_comm i 2, k1, e]
    · rw [h.cellAt (i * 2 + 1) (by omega), Nat.mul_comm i 2, k2, e]
  have HC := hid hcell
  clear h hcell
  have hmk := run_make_row' (P := Try.prog) 62 3 (.int .i64 0) 8 Try.underlying62 Try.info3 rfl .i64 .i64 rs.length (by omega) (by omega)
  generalize hN : rs.length = n at *
  have HN := hid hN
  clear hN
  have HM0 : Hid (RefMem w ((w.alloc (.cells (madeCells #[.int .i64 0] n) 3)).alloc (.cells (madeCells #[.int .i64 0] n) 3)) rs n w.heap.size (w.heap.size + 1) 0) := by
    have r1 := World.rowIs_made w (.int .i64 0) n 3
    have r2 := World.rowIs_made (w.alloc (.cells (madeCells #[.int .i64 0] n) 3)) (.int .i64 0) n 3
    rw [nblk_alloc] at r2
    exact ⟨⟨_, r1.alloc _, fun i hi => absurd hi (by omega)⟩, ⟨_, r2, fun i hi => absurd hi (by omega)⟩, grownBy_alloc' (World.grownBy_alloc w _ none) _, Nat.le_refl _, by omega, by omega⟩
  go_enter Try.func41, Try.ntmps41
  go_wp2_with fail
  generalize (w.alloc (.cells (madeCells #[.int .i64 0] n) 3)).alloc (.cells (madeCells #[.int .i64 0] n) 3) = wm at *
  go_loopw [15] (fun vi wr => ∃ i : Nat, vi = .int .i64 i ∧ i ≤ n ∧ Hid (RefMem w wr rs n w.heap.size (w.heap.size + 1) i)) (fun vi _ => n - (intOf vi).toNat)
  case atStart => exact ⟨0, rfl, Nat.zero_le _, HM0⟩
  case round =>
    obtain ⟨i, rfl, hi, HM⟩ := hrel
    by_cases hlt : i < n
    · obtain ⟨g, hpe, hgl, hc0, hc1⟩ := HC.out i hlt
      subst hpe
      have d0 := (World.cell?_of_block (w := w) (a := ⟨g, i * 2, none⟩) (HM.out.grown.block g hgl (by simp))).trans hc0
      have d1 := (World.cell?_of_block (w := w) (a := ⟨g, i * 2 + 1, none⟩) (HM.out.grown.block g hgl (by simp))).trans hc1
      obtain ⟨f1, hf1, _⟩ := HM.out.r1
      obtain ⟨f2, hf2, _⟩ := HM.out.r2
      have q1 := hf1.cell (i := i) hlt
      have q2 := hf2.cell (i := i) hlt
      have z1 := hf1.frozen i
      have z2 := hf2.frozen i
      have HM1 := hid HM.out.step
      have d1' : (wr.setCell ⟨w.heap.size, i, none⟩ (.int .i64 ((rs.getD i (0, 0)).1 : Int))).cell? ⟨g, i * 2 + 1, none⟩ = _ := (World.cell?_setCell_far _ _ _ _ (by show w.heap.size ≠ g; omega)).trans d1
      have hne1 : g ≠ w.heap.size := by omega
      have hne2 : g ≠ w.heap.size + 1 := by omega
      clear hc0 hc1 hf1 hf2
      go_wp2
      go_roundw
      case rel => exact ⟨i + 1, by go_num, by omega, HM1⟩
      case measure => simp [intOf]; omega
    · have e : i = n := by omega
      go_wp2
      go_ret2
      obtain ⟨f1, hf1, hf1'⟩ := HM.out.r1
      obtain ⟨f2, hf2, hf2'⟩ := HM.out.r2
      refine ⟨w.heap.size, w.heap.size + 1, by rw [HN.out]; rfl, ?_, HM.out.grown⟩
      rw [HN.out]
      exact ⟨fun k hk => by rw [hf1.cell hk, hf1' k (by omega)], fun k hk => by rw [hf2.cell hk, hf2' k (by omega)]⟩

set_option maxHeartbeats 2000000 in
set_option maxRecDepth 100000 in
theorem listed_w {w : World} {B sb m1 m2 : Nat} {col : Nat → Nat} {st : List Sto} {F U : List (K × R)} (h : Shelf w B sb m1 m2 col st F U) (a b : ByteArray) (hk : ok2 (a, b)) (hl : F.length ≤ 8192) :
    Calls Try.prog 33 #[.pointer (some ⟨sb, 0, none⟩), .string a, .string b] w fun e w' => GotRefs w (refs F (a, b)) e w' := by
  have hc := h.boxes.1
  obtain ⟨v, hlk, hown⟩ := h.lookListed (a, b) hk
  have C := hid (zzRefs_w B v (refs F (a, b)) w hown (Nat.le_trans (refs_len F (a, b)) hl))
  clear h hown
  go_enter Try.func33, Try.ntmps33
  go_wp2_with fail
  refine C.out.mono ?_
  rintro e w' ⟨b1, b2, rfl, h1, h2⟩
  have H1 := hid h1
  have H2 := hid h2
  clear h1 h2
  go_wp2
  go_ret2
  exact ⟨b1, b2, rfl, H1.out, H2.out⟩
set_option maxHeartbeats 2000000 in
set_option maxRecDepth 100000 in
theorem unlisted_w {w : World} {B sb m1 m2 : Nat} {col : Nat → Nat} {st : List Sto} {F U : List (K × R)} (h : Shelf w B sb m1 m2 col st F U) (a : ByteArray) (hk : ok1 (a, ByteArray.empty)) (hl : U.length ≤ 8192) :
    Calls Try.prog 35 #[.pointer (some ⟨sb, 0, none⟩), .string a] w fun e w' => GotRefs w (refs U (a, ByteArray.empty)) e w' := by
  have hc := h.boxes.2
  obtain ⟨v, hlk, hown⟩ := h.lookUnlisted (a, ByteArray.empty) hk
  have C := hid (zzRefs_w B v (refs U (a, ByteArray.empty)) w hown (Nat.le_trans (refs_len U (a, ByteArray.empty)) hl))
  clear h hown
  go_enter Try.func35, Try.ntmps35
  go_wp2_with fail
  refine C.out.mono ?_
  rintro e w' ⟨b1, b2, rfl, h1, h2⟩
  have H1 := hid h1
  have H2 := hid h2
  clear h1 h2
  go_wp2
  go_ret2
  exact ⟨b1, b2, rfl, H1.out, H2.out⟩
end Go.Proofs.Qxb6602790a
