import Derived.Test.Qxb6602790aSort0
import Derived.Shelf.Lay
import Derived.Shelf.Small.Bits
import Derived.Ground.NamesProg
import Derived.Laws.Bits64
import Derived.Laws.Bits64b
namespace Go.Proofs.Qxb6602790a
open Go.RowKit Go.Deep Go.Sort Go.Shelf

shelf_lay Lays.n125 Nm 125 at Try as Try.lays125

theorem bitLenAux_pow : ∀ (f x : Nat), x < 2 ^ f → 0 < x → 2 ^ Lib.bitLenAux f x ≤ 2 * x
  | 0, x, h, h0 => by simp at h; omega
  | f + 1, x, h, h0 => by
    rw [Lib.bitLenAux, if_neg (by omega)]
    by_cases h1 : x / 2 = 0
    · rw [h1]
      have : Lib.bitLenAux f 0 = 0 := by cases f <;> simp [Lib.bitLenAux]
      rw [this]; omega
    · have ih := bitLenAux_pow f (x / 2) (by rw [Nat.pow_succ] at h; omega) (by omega)
      rw [Nat.add_comm, Nat.pow_succ]
      omega

/-- math/bits.Len of a length. -/
theorem bitsLen_w (n : Nat) (hn : n < 4611686018427387904) (w : World) : Calls Try.prog 47 #[.int .u64 (n : Int)] w fun e w' => e = .returned (.int .i64 ((Lib.bitLen n : Nat) : Int)) ∧ w' = w := by
  have h := Any.bits_Len Try.lays125 (n : Int) w (by omega) (by omega)
  rwa [Int.toNat_natCast] at h

theorem bitLen_small (n : Nat) (hn : n < 4611686018427387904) : Lib.bitLen n ≤ 62 := by
  rcases Nat.eq_zero_or_pos n with rfl | h0
  · decide
  · have h := bitLenAux_pow 64 n (by omega) h0
    have : (2 : Nat) ^ Lib.bitLenAux 64 n < 2 ^ 63 := by omega
    have := (Nat.pow_lt_pow_iff_right (a := 2) (by omega)).1 this
    unfold Lib.bitLen
    omega

set_option maxHeartbeats 1000000 in
/-- nextPowerOfTwo: some power between 1 and twice the length. -/
theorem nextPow (n : Nat) (h0 : 0 < n) (hn : n < 4611686018427387904) (w : World) :
    Calls Try.prog 63 #[.int .i64 n] w fun e w' => (∃ M : Nat, 1 ≤ M ∧ M ≤ 2 * n ∧ e = .returned (.int .u64 (M : Int))) ∧ w' = w := by
  have hb := bitLenAux_pow 64 n (by omega) h0
  have hk := bitLen_small n hn
  have hp : IntKind.u64.wrap ((2 : Int) ^ Lib.bitLen n) = ((2 ^ Lib.bitLen n : Nat) : Int) := by
    have h : (2 : Nat) ^ Lib.bitLen n ≤ 2 ^ 62 := Nat.pow_le_pow_right (by decide) hk
    rw [IntKind.wrap_u64, show ((2 : Int) ^ Lib.bitLen n) = ((2 ^ Lib.bitLen n : Nat) : Int) by push_cast; rfl]
    generalize (2 : Nat) ^ Lib.bitLen n = p at h
    omega
  have h1 : 1 ≤ 2 ^ Lib.bitLen n := Nat.one_le_two_pow
  have hb2 : 2 ^ Lib.bitLen n ≤ 2 * n := hb
  clear hb
  go_enter Try.func63, Try.ntmps63
  go_wp2_with (first | (go_at_call 47; refine (bitsLen_w n hn _).mono ?_; rintro e w' ⟨rfl, rfl⟩))
  go_ret
  exact ⟨⟨2 ^ Lib.bitLen n, h1, hb2, by show Ending.returned (.int .u64 ((2 : Int) ^ Lib.bitLen n)) = _; rw [show ((2 : Int) ^ Lib.bitLen n) = ((2 ^ Lib.bitLen n : Nat) : Int) by push_cast; rfl]⟩, rfl⟩

/-- The sort's world and the generator's box: some number of 64 bits. -/
structure SRnd (w0 : World) (b C off : Nat) (d : Array Int) (sb : Nat) (w : World) : Prop where
  at_ : SAt w0 b C off d w
  box : ∃ X : Nat, X < 18446744073709551616 ∧ w.rowIs sb 118 1 (fun _ => .int .u64 (X : Int))
  ne : b ≠ sb
  new : w0.heap.size ≤ sb

theorem SRnd.set {w0 w : World} {b C off sb : Nat} {d : Array Int} (h : SRnd w0 b C off d sb w) (X : Nat) (hX : X < 18446744073709551616) : SRnd w0 b C off d sb (w.setCell ⟨sb, 0, none⟩ (.int .u64 (X : Int))) :=
  ⟨h.at_.other h.ne h.new _, let ⟨_, _, r⟩ := h.box; ⟨X, hX, (r.set 0 _).congr (fun i hi => by rw [if_pos (by omega)])⟩, h.ne, h.new⟩
theorem SRnd.drew {w0 w : World} {b C off sb : Nat} {d : Array Int} (h : SRnd w0 b C off d sb w) : SRnd w0 b C off d sb w.drew := ⟨h.at_.drew, h.box, h.ne, h.new⟩

set_option maxHeartbeats 4000000 in
set_option maxRecDepth 100000 in
/-- One step of the generator: a number of 64 bits, whichever. -/
theorem next (w0 : World) (b C off sb : Nat) (d : Array Int) (w : World) (h : SRnd w0 b C off d sb w) :
    Calls Try.prog 64 #[.pointer (some ⟨sb, 0, none⟩)] w fun e w' => (∃ X : Nat, X < 18446744073709551616 ∧ e = .returned (.int .u64 (X : Int))) ∧ SRnd w0 b C off d sb w' := by
  obtain ⟨X, hX, hbox⟩ := h.box
  have xb : ∀ x y : Nat, x < 18446744073709551616 → y < 18446744073709551616 → x ^^^ y < 18446744073709551616 := fun x y h1 h2 => Nat.xor_lt_two_pow (n := 64) h1 h2
  obtain ⟨A, hA⟩ : ∃ A : Nat, A = X ^^^ (X * 8192 % 18446744073709551616) := ⟨_, rfl⟩
  have lA : A < 18446744073709551616 := by rw [hA]; exact xb _ _ hX (by omega)
  obtain ⟨B, hB⟩ : ∃ B : Nat, B = A ^^^ (A / 128) := ⟨_, rfl⟩
  have lB : B < 18446744073709551616 := by rw [hB]; exact xb _ _ lA (by omega)
  obtain ⟨D, hD⟩ : ∃ D : Nat, D = B ^^^ (B * 131072 % 18446744073709551616) := ⟨_, rfl⟩
  have lD : D < 18446744073709551616 := by rw [hD]; exact xb _ _ lB (by omega)
  have e1 : bits .xor .u64 (X : Int) (IntKind.u64.wrap ((X : Int) * 8192)) = (A : Int) := by
    rw [IntKind.wrap_u64, show ((X : Int) * 8192 % 18446744073709551616) = ((X * 8192 % 18446744073709551616 : Nat) : Int) by omega, bits_xor_u64_nat _ _ hX (by omega), hA]
  have e2 : bits .xor .u64 (A : Int) ((A : Int) / 128) = (B : Int) := by
    rw [show ((A : Int) / 128) = ((A / 128 : Nat) : Int) by omega, bits_xor_u64_nat _ _ lA (by omega), hB]
  have e3 : bits .xor .u64 (B : Int) (IntKind.u64.wrap ((B : Int) * 131072)) = (D : Int) := by
    rw [IntKind.wrap_u64, show ((B : Int) * 131072 % 18446744073709551616) = ((B * 131072 % 18446744073709551616 : Nat) : Int) by omega, bits_xor_u64_nat _ _ lB (by omega), hD]
  clear hA hB hD xb
  have c0 : w.cell? ⟨sb, 0, none⟩ = some (.int .u64 (X : Int)) := hbox.cell (by omega)
  have f0 : w.frozen? ⟨sb, 0, none⟩ = false := hbox.frozen 0
  have H0 := hid h
  have HK : Hid (∀ w2 (Y : Nat), SRnd w0 b C off d sb w2 → Y < 18446744073709551616 → SRnd w0 b C off d sb (w2.setCell ⟨sb, 0, none⟩ (.int .u64 (Y : Int))).drew ∧
      (w2.setCell ⟨sb, 0, none⟩ (.int .u64 (Y : Int))).drew.cell? ⟨sb, 0, none⟩ = some (.int .u64 (Y : Int)) ∧ (w2.setCell ⟨sb, 0, none⟩ (.int .u64 (Y : Int))).drew.frozen? ⟨sb, 0, none⟩ = false) := fun w2 Y h2 hY => by
    obtain ⟨_, _, r⟩ := h2.box
    exact ⟨(h2.set Y hY).drew, by have := ((r.set 0 (.int .u64 (Y : Int))).drew).cell (i := 0) (by omega); simpa using this, (r.set 0 (.int .u64 (Y : Int))).drew.frozen 0⟩
  clear h hbox
  go_enter Try.func64, Try.ntmps64
  go_wp2
  go_region
  go_wp2
  have k1 := HK.out w A H0.out lA
  clear c0 f0 H0
  generalize (w.setCell ⟨sb, 0, none⟩ (.int .u64 (A : Int))).drew = w1 at k1 ⊢
  obtain ⟨h1, c1, f1⟩ := k1
  have H1 := hid h1
  clear h1
  go_region
  go_wp2
  have k2 := HK.out w1 B H1.out lB
  clear c1 f1 H1
  generalize (w1.setCell ⟨sb, 0, none⟩ (.int .u64 (B : Int))).drew = w2 at k2 ⊢
  obtain ⟨h2, c2, f2⟩ := k2
  have H2 := hid h2
  clear h2
  go_region
  go_wp2
  have k3 := HK.out w2 D H2.out lD
  clear c2 f2 H2
  generalize (w2.setCell ⟨sb, 0, none⟩ (.int .u64 (D : Int))).drew = w3 at k3 ⊢
  obtain ⟨h3, c3, f3⟩ := k3
  have H3 := hid h3
  clear h3
  go_wp2
  go_ret
  exact ⟨⟨D, lD, rfl⟩, H3.out⟩

theorem SRnd.swap {w0 w : World} {b C off sb : Nat} {d : Array Int} (h : SRnd w0 b C off d sb w) {i j : Nat} (hi : i < d.size) (hj : j < d.size) :
    SRnd w0 b C off (swp d i j) sb ((w.setCell ⟨b, off + i, none⟩ (.int .i32 d[j]!)).setCell ⟨b, off + j, none⟩ (.int .i32 d[i]!)).drew :=
  ⟨(h.at_.swap hi hj).drew, let ⟨X, hX, r⟩ := h.box; ⟨X, hX, ((r.setOther (fun e => h.ne e.symm) _).setOther (fun e => h.ne e.symm) _).drew⟩, h.ne, h.new⟩

set_option maxHeartbeats 8000000 in
set_option maxRecDepth 100000 in
/-- breakPatterns: some elements of the range change places. -/
theorem breakP (w0 : World) (b C off cap n a e : Nat) (d : Array Int) (w : World) (h : SAt w0 b C off d w) (hn : d.size = n) (hae : a + 12 < e) (he : e ≤ n) (hsz : n < 4611686018427387904) :
    Calls Try.prog 52 #[.slice (some ⟨b, off, none⟩) n cap, .int .i64 a, .int .i64 e] w fun x w' => x = .returned (.tuple #[]) ∧ ∃ d', PermIn a e d d' ∧ SAt w0 b C off d' w' := by
  obtain ⟨L, rfl⟩ : ∃ L, e = a + L := ⟨e - a, by omega⟩
  have hblk := h.lt
  have hgr := h.size
  have HB : Hid (SRnd w0 b C off d w.heap.size (w.alloc (.cells #[.int .u64 (L : Int)] 118))) :=
    ⟨h.alloc _, ⟨L, by omega, World.rowIs_alloc w #[.int .u64 (L : Int)] 118 _ (fun i hi => by obtain rfl : i = 0 := by simpa using hi
                                                                                               rfl)⟩, by omega, hgr⟩
  have HN := hid hn
  have NP := hid (nextPow L (by omega) (by omega))
  have NX := hid (fun dk wr hk => next w0 b C off w.heap.size dk wr hk)
  obtain ⟨s, hs⟩ : ∃ s : Nat, s = w.heap.size := ⟨_, rfl⟩
  rw [← hs] at HB NX
  clear h hn hblk hgr
  have HSZ := hid hs
  clear hs
  obtain ⟨q, hq⟩ : ∃ q : Nat, q = L / 4 * 2 := ⟨_, rfl⟩
  have eq : ((L : Int) / 4 * 2) = (q : Int) := by omega
  have hq1 : 6 ≤ q := by omega
  have hq2 : q + 2 ≤ L := by omega
  clear hq
  go_enter Try.func52, Try.ntmps52
  go_wp2_with fail
  rw [show ((a : Int) + (L : Int) - (a : Int)) = (L : Int) by omega, ← HSZ.out]
  refine (NP.out _).mono ?_
  rintro x w' ⟨⟨M, hM1, hM2, rfl⟩, hw'⟩
  rw [hw']
  clear hw' NP HSZ
  generalize w.alloc (.cells #[.int .u64 (L : Int)] 118) = wa at HB ⊢
  go_wp2_with fail
  go_loopw [9] (fun vi wr => ∃ (t : Nat) (dk : Array Int), vi = .int .i64 t ∧ a + q ≤ t + 1 ∧ t ≤ a + q + 2 ∧ Hid (dk.size = n) ∧ Hid (SRnd w0 b C off dk s wr) ∧ Hid (PermIn a (a + L) d dk)) (fun vi _ => a + q + 3 - (intOf vi).toNat)
  case atStart => exact ⟨a + q - 1, d, by go_num, by omega, by omega, HN, HB, permIn_refl _ _ _⟩
  case round =>
    clear HB
    obtain ⟨t, dk, rfl, ht1, ht2, HS, HW, HP⟩ := hrel
    by_cases ht3 : t ≤ a + q + 1
    · go_wp2_with fail
      refine (NX.out dk wr HW.out).mono ?_
      rintro x w1 ⟨⟨X, hX, rfl⟩, h1⟩
      have HW1 := hid h1
      obtain ⟨O, hO⟩ : ∃ O : Nat, O = X &&& (M - 1) := ⟨_, rfl⟩
      have lO : O ≤ M - 1 := by rw [hO]; exact Nat.and_le_right
      have eAnd : bits .and .u64 (X : Int) ((M : Int) - 1) = (O : Int) := by
        rw [show ((M : Int) - 1) = ((M - 1 : Nat) : Int) by omega, bits_and_u64_nat _ _ hX (by omega), hO]
      obtain ⟨G, hG⟩ : ∃ G : Nat → Int, ∀ t, G t = dk[t]! := ⟨fun t => dk[t]!, fun _ => rfl⟩
      have hs := HS.out
      have hcw : ∀ t, t < n → w1.cell? ⟨b, off + t, none⟩ = some (.int .i32 (G t)) := fun t ht => by rw [hG]; exact h1.at_.cell (by omega)
      have hfw : ∀ t, t < n → w1.frozen? ⟨b, off + t, none⟩ = false := fun t _ => h1.at_.frozen t
      have HG := hid hG
      clear hG hs hO h1 HW
      go_wp2_with fail
      · have hLO : L ≤ O := by omega
        by_cases hEq : t = a + (O - L)
        all_goals
          go_region
          all_goals go_wp2
          go_roundw
          case rel =>
            have hs := HS.out
            refine ⟨t + 1, swp dk t (a + (O - L)), by go_num, by omega, by omega, by show _ = _; rw [size_swp]; exact HS.out, ?_, permIn_trans _ _ _ a (a + L) HP.out (swp_permIn dk a (a + L) t (a + (O - L)) (by omega) (by omega) (by omega) (by omega) (by omega))⟩
            have k := HW1.out.swap (i := t) (j := a + (O - L)) (by omega) (by omega)
            simp only [← HG.out] at k
            first
              | exact k
              | (rw [← hEq] at k ⊢; exact k)
          case measure => simp [intOf]; omega
      · have hLO : ¬ L ≤ O := by omega
        by_cases hEq : t = a + O
        all_goals
          go_region
          all_goals go_wp2
          go_roundw
          case rel =>
            have hs := HS.out
            refine ⟨t + 1, swp dk t (a + O), by go_num, by omega, by omega, by show _ = _; rw [size_swp]; exact HS.out, ?_, permIn_trans _ _ _ a (a + L) HP.out (swp_permIn dk a (a + L) t (a + O) (by omega) (by omega) (by omega) (by omega) (by omega))⟩
            have k := HW1.out.swap (i := t) (j := a + O) (by omega) (by omega)
            simp only [← HG.out] at k
            first
              | exact k
              | (rw [← hEq] at k ⊢; exact k)
          case measure => simp [intOf]; omega
    · go_wp2
      go_end0
      exact ⟨rfl, dk, HP.out, HW.out.at_⟩
end Go.Proofs.Qxb6602790a
