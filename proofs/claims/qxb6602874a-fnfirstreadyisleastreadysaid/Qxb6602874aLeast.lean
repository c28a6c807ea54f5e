import Derived.Test.Qxb6602874aBytes
namespace Go.Proofs.Qxb6602874a
open Go.RowKit Go.Deep

set_option maxHeartbeats 4000000 in
set_option maxRecDepth 100000 in
theorem least_walk (a : Option Addr) (n c b o : Nat) (A : Nat → Option Addr) (L C rb ro : Nat → Nat) (D : Nat → Nat → Int) (ap : Option Addr) (m cp : Nat) (P : Nat → Bool) (w : World)
    (hn : n ≤ 9223372036854775807) (hm : m ≤ 9223372036854775807) (hL : ∀ i, i < n → L i ≤ 9223372036854775807) (hd : Deps w a n b o A L C rb ro D) (hnr : NilRows n A L C) (hna : a = none → n = 0 ∧ c = 0) (hnp : ap = none → m = 0 ∧ cp = 0)
    (hsrc : ∀ ad, ap = some ad → ∀ j, j < m → w.cell? (ad.add j) = some (.bool (P j))) :
    Calls Try.prog 3 #[.slice a n c, .slice ap m cp] w fun e w' => e = .returned (.bool true) ∧ Below w.heap.size w w' := by
  have HD : Hid (Deps w a n b o A L C rb ro D) := hd
  have HNR : Hid (NilRows n A L C) := hnr
  have HNA : Hid (a = none → n = 0 ∧ c = 0) := hna
  have HNP : Hid (ap = none → m = 0 ∧ cp = 0) := hnp
  have HS : Hid (∀ ad, ap = some ad → ∀ j, j < m → w.cell? (ad.add j) = some (.bool (P j))) := hsrc
  have HL0 : Hid (∀ i, i < n → L i ≤ 9223372036854775807) := hL
  clear hd hnr hna hnp hsrc hL
  go_enter Try.func3, Try.ntmps3
  go_wp2_with fail
  refine (bytes_7 a n c b o A L C rb ro D ap m cp _ hn hm HL0.out HD.out).mono ?_
  rintro e w' ⟨⟨q, rfl, hq⟩, rfl⟩
  cases q
  case false =>
    clear hq
    go_wp2
    go_ret
    exact ⟨rfl, Below.refl _ _⟩
  obtain ⟨s1, s2, s3⟩ := hq rfl
  have HL : Hid (∀ i, i < n → L i ≤ 1048576) := s3
  clear hq s3 hn hm
  by_cases h1 : 65536 < n
  case pos =>
    go_wp2
    go_ret
    exact ⟨rfl, Below.refl _ _⟩
  go_wp2_with fail
  refine (depsBytes_any a n c b o A L C rb ro D _ (by omega) HL.out HD.out).mono ?_
  rintro e w' ⟨⟨q, rfl, hq⟩, rfl⟩
  by_cases h2 : 1048576 < q + m
  case pos =>
    go_wp2
    go_ret
    exact ⟨rfl, Below.refl _ _⟩
  by_cases h3 : m < n
  case pos =>
    go_wp2
    go_ret
    exact ⟨rfl, Below.refl _ _⟩
  go_wp2_with fail
  refine (range_any a n c b o A L C rb ro D m _ (by omega) HL.out HD.out).mono ?_
  rintro e w' ⟨⟨q, rfl, hq⟩, rfl⟩
  cases q
  case false =>
    clear hq
    go_wp2
    go_ret
    exact ⟨rfl, Below.refl _ _⟩
  have HR : Hid (InRange n m L D) := hq rfl
  clear hq
  go_wp2_with fail
  refine (cloneDeps_any a n c b o A L C rb ro D _ (by omega) HNA.out HL.out HD.out HNR.out).mono ?_
  rintro e w1 ⟨a1, c1, A1, C1, rb1, rfl, hd1, hb1⟩
  have HD1 : Hid (Deps w1 a1 n w'.heap.size 0 A1 L C1 rb1 (fun _ => 0) D) := hd1
  have HB1 : Hid (Below w'.heap.size w' w1) := hb1
  clear hd1 hb1
  go_wp2_with fail
  refine (cloneBools_any ap m cp P _ (by omega) HNP.out (fun ad e j hj => ?_)).mono ?_
  · have := HS.out ad e j hj
    exact (HB1.out.cell (World.block_lt_of_cell? _ _ this)).trans this
  rintro e w2 ⟨ap1, cp1, rfl, hr2, hg2⟩
  have HG2 : Hid (Below w1.heap.size w1 w2) := ⟨hg2.os, hg2.tape, hg2.output, hg2.size, fun k hk => hg2.block k hk (by simp)⟩
  have HF2 : Hid (Flags w2 ap1 m w1.heap.size P) := ⟨fun h => (hr2 h).1, fun i hi => (hr2 (by omega)).2.cell hi⟩
  have HD2 : Hid (Deps w2 a1 n w'.heap.size 0 A1 L C1 rb1 (fun _ => 0) D) := HD1.out.below HG2.out
  have HB2 : Hid (Below w'.heap.size w' w2) := HB1.out.trans (HG2.out.mono HB1.out.size)
  have HR2 : Hid (0 < m → w2.rowIs w1.heap.size 4 m (fun j => .bool (P j))) := fun h => (hr2 h).2
  clear hr2 hg2 HD HNR HNA HNP HS HL0 HD1
  go_wp2_with fail
  refine (zzfirst_any a1 n c1 w'.heap.size 0 A1 L C1 rb1 (fun _ => 0) D ap1 m cp1 w1.heap.size P _ (by omega) (by omega) (by omega) HL.out HD2.out HF2.out HR.out).mono ?_
  rintro e w2' ⟨⟨r, rfl, hr⟩, rfl⟩
  rcases hr with ⟨rfl, hno⟩ | ⟨i, rfl, hi, hready, hleast⟩
  · have HNO : Hid (∀ i, i < n → ¬ Ready P L D i) := hno
    clear hno
    go_wp2
    go_loop [6] (fun i => ∃ k : Nat, k ≤ n ∧ i = .int .i64 k) (fun i => n - (intOf i).toNat)
    case atStart => exact ⟨0, Nat.zero_le _, rfl⟩
    case round =>
      obtain ⟨k, hk, rfl⟩ := hrel
      by_cases hlt : k < n
      · go_wp2_with fail
        refine (ready_any a1 n c1 w'.heap.size 0 A1 L C1 rb1 (fun _ => 0) D ap1 m cp1 w1.heap.size P k _ (by omega) (by omega) (by omega) hlt HL.out HD2.out HF2.out HR.out).mono ?_
        rintro e w3 ⟨⟨q, rfl, hq⟩, rfl⟩
        obtain rfl : q = false := by
          cases q with
          | false => rfl
          | true => exact absurd (hq.1 rfl) (HNO.out k hlt)
        clear hq
        go_wp2
        go_round
        case rel => exact ⟨k + 1, by omega, by go_num⟩
        case measure => simp [intOf]; omega
      · go_wp2
        go_ret
        exact ⟨rfl, HB2.out⟩
  · have HRD : Hid (Ready P L D i) := hready
    have HLE : Hid (∀ j, j < i → ¬ Ready P L D j) := hleast
    have hm1 : ((i : Int) == -1) = false := beq_eq_false_iff_ne.2 (by omega)
    have hi0 : ¬ ((i : Int) < 0) := by omega
    have hi1 : decide ((n : Int) ≤ (i : Int)) = false := decide_eq_false (by omega)
    clear hready hleast
    go_wp2_with fail
    refine (ready_any a1 n c1 w'.heap.size 0 A1 L C1 rb1 (fun _ => 0) D ap1 m cp1 w1.heap.size P i _ (by omega) (by omega) (by omega) hi HL.out HD2.out HF2.out HR.out).mono ?_
    rintro e w3 ⟨⟨q, rfl, hq⟩, rfl⟩
    obtain rfl : q = true := hq.2 HRD.out
    clear hq
    go_wp2
    go_loop [7] (fun t => ∃ k : Nat, k ≤ i ∧ t = .int .i64 k) (fun t => i - (intOf t).toNat)
    case atStart => exact ⟨0, Nat.zero_le _, rfl⟩
    case round =>
      obtain ⟨k, hk, rfl⟩ := hrel
      by_cases hlt : k < i
      · go_wp2_with fail
        refine (ready_any a1 n c1 w'.heap.size 0 A1 L C1 rb1 (fun _ => 0) D ap1 m cp1 w1.heap.size P k _ (by omega) (by omega) (by omega) (by omega) HL.out HD2.out HF2.out HR.out).mono ?_
        rintro e w3 ⟨⟨q, rfl, hq⟩, rfl⟩
        obtain rfl : q = false := by
          cases q with
          | false => rfl
          | true => exact absurd (hq.1 rfl) (HLE.out k hlt)
        clear hq
        go_wp2
        go_round
        case rel => exact ⟨k + 1, by omega, by go_num⟩
        case measure => simp [intOf]; omega
      · go_wp2
        go_ret
        exact ⟨rfl, HB2.out⟩
end Go.Proofs.Qxb6602874a
