import Derived.Test.Qxb6603002aReads
namespace Go.Proofs.Qxb6603002a
open Go.RowKit Go.Deep ValueLaw

theorem Try.info5 : (Try.prog.info? 5).map (fun i => (i.zero, i.size, i.bytes)) = some (some (.int .u8 0), 1, 1) := by kernel_rfl
theorem Try.size5 : (Try.prog.info? 5).map (·.size) = some 1 := by kernel_rfl

theorem clone_nil (w : World) : Calls Try.prog 9 #[.slice none 0 0] w fun e w' => e = .returned (.slice none 0 0) ∧ w' = w := by
  have hq := fun w => Lib.run_eql_slice_nil (P := Try.prog) w 22 5 none 0 0 0 0 Try.underlying22
  go_enter Try.func9, Try.ntmps9
  go_wp2
  go_ret
  exact ⟨rfl, rfl⟩

set_option maxRecDepth 100000 in
theorem clone_some (ad : Addr) (n c : Nat) (cs : List Value) (hcs : cs.length = n) (w : World) (hn : n ≤ 1048576)
    (hsrc : ∀ j v, cs[j]? = some v → w.cell? (ad.add j) = some v) (h1 : ∀ v ∈ cs, v.oneCell' = true) :
    Calls Try.prog 9 #[.slice (some ad) n c] w fun e w' => e = .returned (.slice (some ⟨w.heap.size, 0, none⟩) n n) ∧ w' = w.alloc (.cells cs.toArray 5) := by
  have hq := fun w => Lib.run_eql_slice_nil (P := Try.prog) w 22 5 (some ad) n c 0 0 Try.underlying22
  have hmk := run_make_row' (P := Try.prog) 22 5 (.int .u8 0) 1 Try.underlying22 Try.info5 rfl .i64 .i64 n (by omega) (by omega)
  have hcp := run_copy_fresh Try.prog w 22 5 (.int .u8 0) n c ad cs Try.underlying22 Try.size5 hcs hsrc h1 3
  clear hcs hsrc h1
  go_enter Try.func9, Try.ntmps9
  go_wp2
  go_ret
  exact ⟨rfl, rfl⟩

/-- The copy: in a block of its own. -/
theorem clone_row (ad : Addr) (n c : Nat) (D : Nat → Int) (w : World) (hn : n ≤ 1048576) (hsrc : ∀ j, j < n → w.cell? (ad.add j) = some (.int .u8 (D j))) :
    Calls Try.prog 9 #[.slice (some ad) n c] w fun e w' => e = .returned (.slice (some ⟨w.heap.size, 0, none⟩) n n) ∧ w'.rowIs w.heap.size 5 n (fun i => .int .u8 (D i)) ∧ Below w.heap.size w w' := by
  refine (clone_some ad n c ((List.range n).map fun j => .int .u8 (D j)) (by simp) w hn (fun j v h => ?_) (fun v h => ?_)).mono ?_
  · obtain ⟨hj, rfl⟩ := List.getElem?_eq_some_iff.1 h
    simp at hj ⊢
    exact hsrc j hj
  · simp at h; obtain ⟨j, _, rfl⟩ := h; rfl
  rintro e w' ⟨rfl, rfl⟩
  exact ⟨rfl, rowIs_of_list w 5 n _ (by simp) _ (fun i hi => by simp [hi]), (Below.refl _ _).alloc (Nat.le_refl _) _⟩

theorem zzvalue_any (a : Option Addr) (n c b o : Nat) (D : Nat → Int) (s : Nat) (w : World) (hn : n ≤ 1048576) (hs : s ≤ 9223372036854775807) (hd : Bytes w a n b o D) :
    Calls Try.prog 15 #[.slice a n c, .int .i64 s] w fun e w' => e = .returned (.int .i64 (VE D n s 0 : Nat)) ∧ w' = w := by
  go_enter Try.func15, Try.ntmps15
  go_wp2_with fail
  refine (value_any a n c b o D s _ hn hs hd).mono ?_
  rintro e w1 ⟨rfl, rfl⟩
  go_wp2
  go_ret
  exact ⟨rfl, rfl⟩

theorem zzvalue_zero (a : Option Addr) (n c b o : Nat) (D : Nat → Int) (w : World) (hn : n ≤ 1048576) (hd : Bytes w a n b o D) :
    Calls Try.prog 15 #[.slice a n c, .int .i64 0] w fun e w' => e = .returned (.int .i64 (VE D n 0 0 : Nat)) ∧ w' = w := zzvalue_any a n c b o D 0 w hn (by omega) hd

theorem bytes17_yes (a : Option Addr) (n c : Nat) (s : Int) (w : World) (h : n ≤ 1048576) : Calls Try.prog 17 #[.slice a n c, .int .i64 s] w fun e w' => e = .returned (.bool true) ∧ w' = w := by
  go_enter Try.func17, Try.ntmps17
  go_wp2
  go_ret
  exact ⟨rfl, rfl⟩
theorem bytes17_no (a : Option Addr) (n c : Nat) (s : Int) (w : World) (h : 1048576 < n) (hm : n ≤ 9223372036854775807) : Calls Try.prog 17 #[.slice a n c, .int .i64 s] w fun e w' => e = .returned (.bool false) ∧ w' = w := by
  go_enter Try.func17, Try.ntmps17
  go_wp2
  go_ret
  exact ⟨rfl, rfl⟩
theorem bytes14_yes (a : Option Addr) (n c : Nat) (s : Int) (w : World) (h : n ≤ 1048576) : Calls Try.prog 14 #[.slice a n c, .int .i64 s] w fun e w' => e = .returned (.bool true) ∧ w' = w := by
  go_enter Try.func14, Try.ntmps14
  go_wp2
  go_ret
  exact ⟨rfl, rfl⟩
theorem bytes14_no (a : Option Addr) (n c : Nat) (s : Int) (w : World) (h : 1048576 < n) (hm : n ≤ 9223372036854775807) : Calls Try.prog 14 #[.slice a n c, .int .i64 s] w fun e w' => e = .returned (.bool false) ∧ w' = w := by
  go_enter Try.func14, Try.ntmps14
  go_wp2
  go_ret
  exact ⟨rfl, rfl⟩

/-- The bytes of a copy, from s on. -/
theorem bytes_row {w : World} {B n s : Nat} {D : Nat → Int} (h : w.rowIs B 5 n (fun i => .int .u8 (D i))) (hs : s ≤ n) (a : Option Addr) (ha : 0 < n - s → a = some ⟨B, s, none⟩) : Bytes w a (n - s) B s (fun j => D (s + j)) :=
  ⟨ha, fun i hi => h.cell (by omega)⟩

theorem shift_nil (w : World) : Calls Try.prog 6 #[.slice none 0 0, .int .i64 0] w fun e w' => e = .returned (.bool true) ∧ Below w.heap.size w w' := by
  obtain ⟨v, hv⟩ : ∃ v, v = VE (fun _ => 0) 0 0 0 := ⟨_, rfl⟩
  have hv0 : (v : Int) ≤ 1 := by rw [hv]; have := VE_le' (fun _ => 0) 0 0 0; omega
  have HB : Hid (∀ w : World, Bytes w none 0 0 0 (fun _ => 0)) := fun w => ⟨fun h => absurd h (by omega), fun i hi => absurd hi (by omega)⟩
  have HV : Hid (v = VE (fun _ => 0) 0 0 0) := hv
  clear hv
  go_enter Try.func6, Try.ntmps6
  go_wp2_with fail
  refine (bytes17_yes none 0 0 0 _ (by omega)).mono ?_
  rintro e w1 ⟨rfl, rfl⟩
  go_wp2_with fail
  refine (clone_nil _).mono ?_
  rintro e w1 ⟨rfl, rfl⟩
  go_wp2_with fail
  refine (zzvalue_zero none 0 0 0 0 (fun _ => 0) _ (by omega) (HB.out _)).mono ?_
  rintro e w1 ⟨rfl, rfl⟩
  rw [← HV.out]
  go_wp2_with fail
  refine (zzvalue_zero none 0 0 0 0 (fun _ => 0) _ (by omega) (HB.out _)).mono ?_
  rintro e w1 ⟨rfl, rfl⟩
  rw [← HV.out]
  go_wp2
  go_ret
  exact ⟨rfl, Below.refl _ _⟩

set_option maxHeartbeats 1000000 in
set_option maxRecDepth 100000 in
theorem shift_some (ad : Addr) (n c : Nat) (D : Nat → Int) (s : Nat) (w : World) (hn : n ≤ 1048576) (hs : s ≤ n) (hsrc : ∀ j, j < n → w.cell? (ad.add j) = some (.int .u8 (D j))) :
    Calls Try.prog 6 #[.slice (some ad) n c, .int .i64 s] w fun e w' => e = .returned (.bool true) ∧ Below w.heap.size w w' := by
  have HS : Hid (∀ j, j < n → w.cell? (ad.add j) = some (.int .u8 (D j))) := hsrc
  clear hsrc
  obtain ⟨u, hu⟩ : ∃ u, u = VE (fun j => D (s + j)) (n - s) 0 0 := ⟨_, rfl⟩
  obtain ⟨v, hv⟩ : ∃ v, v = VE D n s 0 := ⟨_, rfl⟩
  have huv : u + s = v := by rw [hu, hv]; exact VE_shift D n s 0 hs
  have hvn : v ≤ n + 1 := by rw [hv]; exact VE_le' D n s 0
  have hb : ((u : Int) == (v : Int) - (s : Int)) = true := beq_iff_eq.2 (by omega)
  have hvi : (s : Int) ≤ (v : Int) := by omega
  have HU : Hid (u = VE (fun j => D (s + j)) (n - s) 0 0) := hu
  have HV : Hid (v = VE D n s 0) := hv
  clear hu hv huv
  by_cases he : s = n
  · subst he
    go_enter Try.func6, Try.ntmps6
    go_wp2_with fail
    refine (bytes17_yes (some ad) s c s _ hn).mono ?_
    rintro e w1 ⟨rfl, rfl⟩
    go_wp2_with fail
    refine (clone_row ad s c D _ hn HS.out).mono ?_
    rintro e w2 ⟨rfl, hr, hbl⟩
    have HR : Hid (w2.rowIs w1.heap.size 5 s (fun i => .int .u8 (D i))) := hr
    have HBL : Hid (Below w1.heap.size w1 w2) := hbl
    clear hr hbl
    go_wp2_with fail
    refine (zzvalue_zero _ 0 0 w1.heap.size s (fun j => D (s + j)) _ (by omega) ⟨fun h => absurd h (by omega), fun i hi => absurd hi (by omega)⟩).mono ?_
    rintro e w3 ⟨rfl, rfl⟩
    have HU' : Hid (u = VE (fun j => D (s + j)) 0 0 0) := by have := HU.out; rw [Nat.sub_self] at this; exact this
    rw [← HU'.out]
    go_wp2_with fail
    refine (zzvalue_any _ s s w1.heap.size 0 D s _ hn (by omega) ⟨fun _ => rfl, fun i hi => by simpa using HR.out.cell hi⟩).mono ?_
    rintro e w3 ⟨rfl, rfl⟩
    rw [← HV.out]
    go_wp2
    go_ret
    exact ⟨rfl, HBL.out⟩
  · have hlt : s < n := by omega
    have hne : ¬ n = s := by omega
    clear he
    go_enter Try.func6, Try.ntmps6
    go_wp2_with fail
    refine (bytes17_yes (some ad) n c s _ hn).mono ?_
    rintro e w1 ⟨rfl, rfl⟩
    go_wp2_with fail
    refine (clone_row ad n c D _ hn HS.out).mono ?_
    rintro e w2 ⟨rfl, hr, hbl⟩
    have HR : Hid (w2.rowIs w1.heap.size 5 n (fun i => .int .u8 (D i))) := hr
    have HBL : Hid (Below w1.heap.size w1 w2) := hbl
    clear hr hbl
    go_wp2_with fail
    refine (zzvalue_zero _ (n - s) (n - s) w1.heap.size s (fun j => D (s + j)) _ (by omega) (bytes_row HR.out (by omega) _ (fun _ => rfl))).mono ?_
    rintro e w3 ⟨rfl, rfl⟩
    rw [← HU.out]
    go_wp2_with fail
    refine (zzvalue_any _ n n w1.heap.size 0 D s _ hn (by omega) ⟨fun _ => rfl, fun i hi => by simpa using HR.out.cell hi⟩).mono ?_
    rintro e w3 ⟨rfl, rfl⟩
    rw [← HV.out]
    go_wp2
    go_ret
    exact ⟨rfl, HBL.out⟩
end Go.Proofs.Qxb6603002a
