import Derived.Test.Qxb6602790aSort0
import Derived.Sort.LotD4
import Derived.Deep.RegionWith
namespace Go.Proofs.Qxb6602790a
open Go.RowKit Go.Deep Go.Sort

/-- .. and the counter 'swaps' in a block of the sort's own. -/
structure SBox (w0 : World) (b C off : Nat) (d : Array Int) (sb : Nat) (s : Nat) (w : World) : Prop where
  at_ : SAt w0 b C off d w
  box : w.rowIs sb 3 1 (fun _ => .int .i64 (s : Int))
  ne : b ≠ sb
  new : w0.heap.size ≤ sb

theorem SBox.drewN {w0 w : World} {b C off sb s : Nat} {d : Array Int} (h : SBox w0 b C off d sb s w) (q : Nat) : SBox w0 b C off d sb s (w.drewN q) := ⟨h.at_.drewN q, h.box, h.ne, h.new⟩
theorem SBox.set {w0 w : World} {b C off sb s : Nat} {d : Array Int} (h : SBox w0 b C off d sb s w) (t : Nat) : SBox w0 b C off d sb t (w.setCell ⟨sb, 0, none⟩ (.int .i64 (t : Int))) :=
  ⟨h.at_.other h.ne h.new _, (h.box.set 0 _).congr (fun i hi => by rw [if_pos (by omega)]), h.ne, h.new⟩

set_option maxHeartbeats 2000000 in
set_option maxRecDepth 100000 in
theorem order2_w (w0 : World) (b C off cap n a e sb s : Nat) (d : Array Int) (w : World) (h : SBox w0 b C off d sb s w) (hn : d.size = n) (ha : a < n) (he : e < n) (hs : s < 1000) :
    Calls Try.prog 68 #[.slice (some ⟨b, off, none⟩) n cap, .int .i64 a, .int .i64 e, .pointer (some ⟨sb, 0, none⟩)] w fun x w' =>
      x = .returned (.tuple #[.int .i64 (order2 ltInt d a e s).1, .int .i64 (order2 ltInt d a e s).2.1]) ∧ SBox w0 b C off d sb (order2 ltInt d a e s).2.2 w' := by
  obtain ⟨x, hx⟩ : ∃ x, x = d[a]! := ⟨_, rfl⟩
  obtain ⟨y, hy⟩ : ∃ y, y = d[e]! := ⟨_, rfl⟩
  have ca : w.cell? ⟨b, off + a, none⟩ = some (.int .i32 x) := by rw [hx]; exact h.at_.cell (by omega)
  have ce : w.cell? ⟨b, off + e, none⟩ = some (.int .i32 y) := by rw [hy]; exact h.at_.cell (by omega)
  have cs : w.cell? ⟨sb, 0, none⟩ = some (.int .i64 (s : Int)) := h.box.cell (by omega)
  have fs : w.frozen? ⟨sb, 0, none⟩ = false := h.box.frozen 0
  have H : Hid (SBox w0 b C off d sb s w) := h
  have HX : Hid (order2 ltInt d a e s = if ltInt y x then (e, a, s + 1) else (a, e, s)) := by rw [hx, hy]; rfl
  clear h hx hy hn
  go_enter Try.func68, Try.ntmps68
  go_wp2
  go_quiet (first | (go_at_call 56; refine Calls.quiet_of_same (less _ _ _)))
  have cs2 : (w.drewN nq).cell? ⟨sb, 0, none⟩ = some (.int .i64 (s : Int)) := cs
  have fs2 : (w.drewN nq).frozen? ⟨sb, 0, none⟩ = false := fs
  go_wp2
  · have hl : ltInt y x = true := by assumption
    go_ret2
    rw [HX.out, hl]
    exact ⟨rfl, (H.out.drewN nq).set (s + 1)⟩
  · have hl : ltInt y x = false := by assumption
    go_ret2
    rw [HX.out, hl]
    exact ⟨rfl, H.out.drewN nq⟩

theorem order2_in (d : Array Int) {a e n : Nat} (s : Nat) (ha : a < n) (he : e < n) : (order2 ltInt d a e s).1 < n ∧ (order2 ltInt d a e s).2.1 < n ∧ (order2 ltInt d a e s).2.2 ≤ s + 1 := by
  unfold order2
  split <;> exact ⟨by assumption, by assumption, by simp⟩

set_option maxHeartbeats 2000000 in
set_option maxRecDepth 100000 in
theorem median_w (w0 : World) (b C off cap n x y z sb s : Nat) (d : Array Int) (w : World) (h : SBox w0 b C off d sb s w) (hn : d.size = n) (hx : x < n) (hy : y < n) (hz : z < n) (hs : s < 900) :
    Calls Try.prog 66 #[.slice (some ⟨b, off, none⟩) n cap, .int .i64 x, .int .i64 y, .int .i64 z, .pointer (some ⟨sb, 0, none⟩)] w fun r w' =>
      r = .returned (.int .i64 (median ltInt d x y z s).1) ∧ SBox w0 b C off d sb (median ltInt d x y z s).2 w' := by
  have l1 := order2_in d s hx hy
  have c1 := order2_w w0 b C off cap n x y sb s d w h hn hx hy (by omega)
  have l2 := order2_in d (order2 ltInt d x y s).2.2 l1.2.1 hz
  have c2 := fun w2 h2 => order2_w w0 b C off cap n (order2 ltInt d x y s).2.1 z sb (order2 ltInt d x y s).2.2 d w2 h2 hn l1.2.1 hz (by omega)
  have c3 := fun w3 h3 => order2_w w0 b C off cap n (order2 ltInt d x y s).1 (order2 ltInt d (order2 ltInt d x y s).2.1 z (order2 ltInt d x y s).2.2).1 sb (order2 ltInt d (order2 ltInt d x y s).2.1 z (order2 ltInt d x y s).2.2).2.2 d w3 h3 hn l1.1 l2.1 (by omega)
  unfold median
  simp only []
  generalize order2 ltInt d x y s = r1 at *
  generalize order2 ltInt d r1.2.1 z r1.2.2 = r2 at *
  generalize order2 ltInt d r1.1 r2.1 r2.2.2 = r3 at *
  obtain ⟨x1, y1, s1⟩ := r1
  obtain ⟨x2, y2, s2⟩ := r2
  obtain ⟨x3, y3, s3⟩ := r3
  simp only [] at c1 c2 c3 ⊢
  have C1 := hid c1
  have C2 := hid c2
  have C3 := hid c3
  clear c1 c2 c3 h hn l1 l2
  go_enter Try.func66, Try.ntmps66
  go_wp2_with fail
  refine C1.out.mono ?_
  rintro e w1 ⟨rfl, h1⟩
  have H1 := hid h1
  clear h1
  go_wp2_with fail
  refine (C2.out _ H1.out).mono ?_
  rintro e w2 ⟨rfl, h1⟩
  have H2 := hid h1
  clear h1
  go_wp2_with fail
  refine (C3.out _ H2.out).mono ?_
  rintro e w3 ⟨rfl, h1⟩
  have H3 := hid h1
  clear h1
  go_wp2
  go_ret
  exact ⟨rfl, H3.out⟩

set_option maxHeartbeats 2000000 in
set_option maxRecDepth 100000 in
theorem adjacent_w (w0 : World) (b C off cap n x sb s : Nat) (d : Array Int) (w : World) (h : SBox w0 b C off d sb s w) (hn : d.size = n) (h1 : 1 ≤ x) (hx : x + 1 < n) (hsz : n < 4611686018427387904) (hs : s < 900) :
    Calls Try.prog 65 #[.slice (some ⟨b, off, none⟩) n cap, .int .i64 x, .pointer (some ⟨sb, 0, none⟩)] w fun r w' =>
      r = .returned (.int .i64 (medianAdjacent ltInt d x s).1) ∧ SBox w0 b C off d sb (medianAdjacent ltInt d x s).2 w' := by
  have c := median_w w0 b C off cap n (x - 1) x (x + 1) sb s d w h hn (by omega) (by omega) hx hs
  rw [show ((x - 1 : Nat) : Int) = (x : Int) - 1 by omega, show ((x + 1 : Nat) : Int) = (x : Int) + 1 by omega] at c
  have K := hid c
  clear c h hn
  go_enter Try.func65, Try.ntmps65
  go_wp2_with fail
  refine K.out.mono ?_
  rintro e w1 ⟨rfl, h1⟩
  have H1 := hid h1
  clear h1
  go_wp2
  go_ret
  exact ⟨rfl, H1.out⟩

/-- What the switch says of the count. -/
theorem hint_cases (s : Nat) : (s = 0 ∧ hintCode (hintOf s) = 1) ∨ (s = 12 ∧ hintCode (hintOf s) = 2) ∨ (s ≠ 0 ∧ s ≠ 12 ∧ hintCode (hintOf s) = 0) := by
  unfold hintOf
  by_cases h0 : s = 0
  · exact .inl ⟨h0, by rw [if_pos h0]; rfl⟩
  · by_cases h1 : s = 12
    · exact .inr (.inl ⟨h1, by rw [if_neg h0, if_pos h1]; rfl⟩)
    · exact .inr (.inr ⟨h0, h1, by rw [if_neg h0, if_neg h1]; rfl⟩)

set_option maxHeartbeats 8000000 in
set_option maxRecDepth 100000 in
theorem choose (w0 : World) (b C off cap n a e : Nat) (d : Array Int) (w : World) (h : SAt w0 b C off d w) (hn : d.size = n) (hae : a < e) (he : e ≤ n) (hsz : n < 4611686018427387904) :
    Calls Try.prog 53 #[.slice (some ⟨b, off, none⟩) n cap, .int .i64 a, .int .i64 e] w fun x w' =>
      x = .returned (.tuple #[.int .i64 (choosePivot ltInt d a e).1, .int .i64 (hintCode (choosePivot ltInt d a e).2)]) ∧ SAt w0 b C off d w' := by
  have hblk := h.lt
  have hgr := h.size
  have HB : Hid (SBox w0 b C off d w.heap.size 0 (w.alloc (.cells #[.int .i64 0] 3))) :=
    ⟨h.alloc _, World.rowIs_alloc w #[.int .i64 0] 3 _ (fun i hi => by obtain rfl : i = 0 := by simpa using hi
                                                                       rfl), by omega, hgr⟩
  rw [choosePivot_eq]
  obtain ⟨I, hI⟩ : ∃ I : Nat, I = a + (e - a) / 4 * 1 := ⟨_, rfl⟩
  obtain ⟨J, hJ⟩ : ∃ J : Nat, J = a + (e - a) / 4 * 2 := ⟨_, rfl⟩
  obtain ⟨K, hK⟩ : ∃ K : Nat, K = a + (e - a) / 4 * 3 := ⟨_, rfl⟩
  have eI : ((a : Int) + ((e : Int) - (a : Int)) / 4) = (I : Int) := by omega
  have eJ : ((a : Int) + ((e : Int) - (a : Int)) / 4 * 2) = (J : Int) := by omega
  have eK : ((a : Int) + ((e : Int) - (a : Int)) / 4 * 3) = (K : Int) := by omega
  have A := fun x s w2 (h2 : SBox w0 b C off d w.heap.size s w2) (h3 : 1 ≤ x) (h4 : x + 1 < n) (h5 : s < 900) => adjacent_w w0 b C off cap n x w.heap.size s d w2 h2 hn h3 h4 hsz h5
  have M := fun x y z s w2 (h2 : SBox w0 b C off d w.heap.size s w2) (h3 : x < n) (h4 : y < n) (h5 : z < n) (h6 : s < 900) => median_w w0 b C off cap n x y z w.heap.size s d w2 h2 hn h3 h4 h5 h6
  by_cases h8 : e - a ≥ 8
  · by_cases h50 : e - a ≥ 50
    · obtain ⟨i1, s1, h1⟩ : ∃ i1 s1, medianAdjacent ltInt d I 0 = (i1, s1) := ⟨_, _, rfl⟩
      obtain ⟨j1, s2, h2⟩ : ∃ j1 s2, medianAdjacent ltInt d J s1 = (j1, s2) := ⟨_, _, rfl⟩
      obtain ⟨k1, s3, h3⟩ : ∃ k1 s3, medianAdjacent ltInt d K s2 = (k1, s3) := ⟨_, _, rfl⟩
      obtain ⟨p, s, h4⟩ : ∃ p s, median ltInt d i1 j1 k1 s3 = (p, s) := ⟨_, _, rfl⟩
      have hraw : rawPivot ltInt d a e = (p, s) := by simp only [rawPivot, if_pos h8, if_pos h50, ← hI, ← hJ, ← hK, h1, h2, h3, h4]
      have m1 := medianAdjacent_mem ltInt d I 0; rw [h1] at m1
      have m2 := medianAdjacent_mem ltInt d J s1; rw [h2] at m2
      have m3 := medianAdjacent_mem ltInt d K s2; rw [h3] at m3
      have n1 := medianAdjacent_count ltInt d I 0; rw [h1] at n1
      have n2 := medianAdjacent_count ltInt d J s1; rw [h2] at n2
      have n3 := medianAdjacent_count ltInt d K s2; rw [h3] at n3
      simp only [] at m1 m2 m3 n1 n2 n3
      have C1 : Hid _ := hid (fun w2 h2 => A I 0 w2 h2 (by omega) (by omega) (by omega)); rw [h1] at C1
      have C2 : Hid _ := hid (fun w2 h2 => A J s1 w2 h2 (by omega) (by omega) (by omega)); rw [h2] at C2
      have C3 : Hid _ := hid (fun w2 h2 => A K s2 w2 h2 (by omega) (by omega) (by omega)); rw [h3] at C3
      have C4 : Hid _ := hid (fun w2 h2 => M i1 j1 k1 s3 w2 h2 (by omega) (by omega) (by omega) (by omega)); rw [h4] at C4
      rw [hraw]
      simp only []
      have HC := hid (hint_cases s)
      generalize hintCode (hintOf s) = hc at HC ⊢
      clear hraw h1 h2 h3 h4 A M hI hJ hK m1 m2 m3 n1 n2 n3 h hn hblk hgr
      go_enter Try.func53, Try.ntmps53
      go_wp2_with fail
      refine (C1.out _ HB.out).mono ?_
      rintro r w1 ⟨rfl, h1⟩
      have H1 := hid h1
      clear h1
      go_wp2_with fail
      refine (C2.out _ H1.out).mono ?_
      rintro r w2 ⟨rfl, h1⟩
      have H2 := hid h1
      clear h1
      go_wp2_with fail
      refine (C3.out _ H2.out).mono ?_
      rintro r w3 ⟨rfl, h1⟩
      have H3 := hid h1
      clear h1
      go_wp2_with fail
      refine (C4.out _ H3.out).mono ?_
      rintro r w4 ⟨rfl, h1⟩
      have H4 := hid h1
      have c4 : w4.cell? ⟨w.heap.size, 0, none⟩ = some (.int .i64 (s : Int)) := h1.box.cell (by omega)
      clear h1
      rcases HC.out with ⟨q1, q2⟩ | ⟨q1, q2⟩ | ⟨q0, q1, q2⟩
      · subst q1; subst q2
        go_wp2
        go_ret2
        exact ⟨rfl, H4.out.at_⟩
      · subst q1; subst q2
        go_wp2
        go_ret2
        exact ⟨rfl, H4.out.at_⟩
      · subst q2
        have t0 : ((s : Int) == 0) = false := beq_eq_false_iff_ne.2 (by omega)
        have t1 : ((s : Int) == 12) = false := beq_eq_false_iff_ne.2 (by omega)
        clear q0 q1
        go_wp2
        go_ret2
        exact ⟨rfl, H4.out.at_⟩
    · obtain ⟨p, s, h4⟩ : ∃ p s, median ltInt d I J K 0 = (p, s) := ⟨_, _, rfl⟩
      have hraw : rawPivot ltInt d a e = (p, s) := by simp only [rawPivot, if_pos h8, if_neg h50, ← hI, ← hJ, ← hK, h4]
      have C4 : Hid _ := hid (fun w2 h2 => M I J K 0 w2 h2 (by omega) (by omega) (by omega) (by omega)); rw [h4] at C4
      rw [hraw]
      simp only []
      have HC := hid (hint_cases s)
      generalize hintCode (hintOf s) = hc at HC ⊢
      clear hraw h4 A M hI hJ hK h hn hblk hgr
      go_enter Try.func53, Try.ntmps53
      go_wp2_with fail
      refine (C4.out _ HB.out).mono ?_
      rintro r w4 ⟨rfl, h1⟩
      have H4 := hid h1
      have c4 : w4.cell? ⟨w.heap.size, 0, none⟩ = some (.int .i64 (s : Int)) := h1.box.cell (by omega)
      clear h1
      rcases HC.out with ⟨q1, q2⟩ | ⟨q1, q2⟩ | ⟨q0, q1, q2⟩
      · subst q1; subst q2
        go_wp2
        go_ret2
        exact ⟨rfl, H4.out.at_⟩
      · subst q1; subst q2
        go_wp2
        go_ret2
        exact ⟨rfl, H4.out.at_⟩
      · subst q2
        have t0 : ((s : Int) == 0) = false := beq_eq_false_iff_ne.2 (by omega)
        have t1 : ((s : Int) == 12) = false := beq_eq_false_iff_ne.2 (by omega)
        clear q0 q1
        go_wp2
        go_ret2
        exact ⟨rfl, H4.out.at_⟩
  · have hraw : rawPivot ltInt d a e = (J, 0) := by simp only [rawPivot, if_neg h8, ← hJ]
    rw [hraw]
    simp only []
    rw [show hintCode (hintOf 0) = 1 from rfl]
    clear hraw A M hI hJ hK h hn hblk hgr
    go_enter Try.func53, Try.ntmps53
    go_wp2
    go_ret2
    exact ⟨rfl, HB.out.at_⟩
end Go.Proofs.Qxb6602790a
