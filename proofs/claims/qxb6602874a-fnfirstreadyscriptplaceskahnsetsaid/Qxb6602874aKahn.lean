import Derived.Test.Qxb6602874aKahnMem
import Derived.BigRegion
namespace Go.Proofs.Qxb6602874a
open Go.RowKit Go.Deep KahnLaw

/-- The script while it runs: p holds what is placed. -/
structure Script (w2 wr : World) (n m Bq : Nat) (L : Nat → Nat) (D : Nat → Nat → Int) (P0 p : Nat → Bool) (dn : Bool) (step : Nat) : Prop where
  below : Below w2.heap.size w2 wr
  row : wr.rowIs Bq 4 m (fun i => .bool (p i))
  der : Der n L (fun i j => (D i j).toNat) P0 p
  sub : ∀ i, P0 i = true → p i = true
  run : dn = false → unp p n + step ≤ n
  fin : dn = true → ∀ i, i < n → ¬ Ready p L D i

theorem Script.place {w2 wr : World} {n m Bq : Nat} {L : Nat → Nat} {D : Nat → Nat → Int} {P0 p : Nat → Bool} {step i : Nat} (h : Script w2 wr n m Bq L D P0 p false step) (hB : w2.heap.size ≤ Bq) (hi : i < n) (hr : Ready p L D i) :
    Script w2 (wr.setCell ⟨Bq, i, none⟩ (.bool true)) n m Bq L D P0 (put p i) false (step + 1) :=
  ⟨h.below.setCell (by exact hB) _, (h.row.set i _).congr (fun j _ => by by_cases e : j = i <;> simp [put, e]), der_put h.der hi hr.2, fun j hj => (put_iff p i j).2 (.inr (h.sub j hj)),
    fun _ => by have := unp_put p i hr.1 n hi; have := h.run rfl; omega, fun e => by cases e⟩
theorem Script.stop {w2 wr : World} {n m Bq : Nat} {L : Nat → Nat} {D : Nat → Nat → Int} {P0 p : Nat → Bool} {step : Nat} (h : Script w2 wr n m Bq L D P0 p false step) (hr : ∀ i, i < n → ¬ Ready p L D i) :
    Script w2 wr n m Bq L D P0 p true (step + 1) := ⟨h.below, h.row, h.der, h.sub, (fun e => by cases e), fun _ => hr⟩
theorem Script.closed {w2 wr : World} {n m Bq : Nat} {L : Nat → Nat} {D : Nat → Nat → Int} {P0 p : Nat → Bool} {step : Nat} (h : Script w2 wr n m Bq L D P0 p true step) : Closed n L (fun i j => (D i j).toNat) (fun i => p i = true) := by
  intro i hi hd
  cases hp : p i with
  | true => rfl
  | false => exact absurd ⟨hp, hd⟩ (h.fin rfl i hi)

/-- Kahn's set while it is laid: a copy of placed. -/
structure Pre (w2 wr : World) (m Bq Bk : Nat) (p P0 : Nat → Bool) (k : Nat) : Prop where
  below : Below w2.heap.size w2 wr
  p : wr.rowIs Bq 4 m (fun i => .bool (p i))
  kahn : wr.rowIs Bk 4 m (fun i => if i < k then .bool (P0 i) else .bool false)
  o1 : w2.heap.size ≤ Bq
  o2 : Bq < Bk
theorem Pre.step {w2 wr : World} {m Bq Bk : Nat} {p P0 : Nat → Bool} {k : Nat} (h : Pre w2 wr m Bq Bk p P0 k) : Pre w2 (wr.setCell ⟨Bk, k, none⟩ (.bool (P0 k))) m Bq Bk p P0 (k + 1) :=
  have a := h.o1; have b := h.o2
  ⟨h.below.setCell (by show w2.heap.size ≤ Bk; omega) _, h.p.setOther (by show Bq ≠ Bk; omega) _, (h.kahn.set k _).congr (fun i _ => fill_step k i (fun i => Value.bool (P0 i)) _), h.o1, h.o2⟩
theorem Pre.start {w2 wr : World} {m Bq : Nat} {p P0 : Nat → Bool} (hb : Below w2.heap.size w2 wr) (hp : wr.rowIs Bq 4 m (fun i => .bool (p i))) (h1 : w2.heap.size ≤ Bq) : Pre w2 (wr.alloc (.cells (madeCells #[.bool false] m) 4)) m Bq wr.heap.size p P0 0 :=
  ⟨hb.alloc hb.size _, hp.alloc _, (World.rowIs_made wr _ m 4).congr (fun i _ => by simp), h1, hp.lt⟩
theorem Build.start {w2 wr : World} {n m Bq Bk : Nat} {p P0 : Nat → Bool} (h : Pre w2 wr m Bq Bk p P0 m) :
    Build w2 ((wr.alloc (.cells (madeCells #[.int .i64 0] n) 3)).alloc (.cells (madeCells #[.slice none 0 0] m) 31)) n m Bq Bk wr.heap.size (wr.heap.size + 1) p P0 (fun _ => 0) (fun _ => []) (fun _ => none) (fun _ => 0) := by
  have hs : (wr.alloc (.cells (madeCells #[.int .i64 0] n) 3)).heap.size = wr.heap.size + 1 := by simp
  have ht := World.rowIs_made (wr.alloc (.cells (madeCells #[.int .i64 0] n) 3)) (.slice none 0 0) m 31
  rw [hs] at ht
  exact ⟨(h.below.alloc h.below.size _).alloc (by rw [hs]; have := h.below.size; omega) _, (h.p.alloc _).alloc _, ((h.kahn.congr (fun i hi => by rw [if_pos hi])).alloc _).alloc _, ((World.rowIs_made wr (.int .i64 0) n 3).alloc _).congr (fun i _ => by simp),
    ht.congr (fun i _ => by simp), fun x _ => World.ownsRow_nil _ _ _ _, fun x _ y _ _ => .inl rfl, h.o1, h.o2, h.kahn.lt, by omega⟩
/-- 'make([]int, 0, n)'. -/
theorem run_make_zero {P : Program} (t e : TypeId) (z : Value) (bytes : Nat) (ht : P.underlying t = some (.slice e)) (hinfo : (P.info? e).map (fun i => (i.zero, i.size, i.bytes)) = some (some z, 1, bytes)) (hz1 : z.cells = #[z])
    (n : Nat) (hbytes : bytes * n ≤ 281474976710656) (h63 : n ≤ 9223372036854775807) (w : World) :
    (Instr.makeSlice t (.int .i64 0) (.int .i64 (n : Int))).run P w = .ok (.slice (some ⟨w.heap.size, 0, none⟩) 0 n) (w.alloc (.cells (madeCells #[z] n) e)) := by
  obtain ⟨i, hi, hz, hs, hb⟩ := info_parts hinfo
  have hb' : (i.bytes : Int) * (n : Int) ≤ 281474976710656 := by
    have h : ((i.bytes * n : Nat) : Int) ≤ 281474976710656 := by rw [hb]; omega
    rwa [Int.natCast_mul] at h
  have hr := run_make (P := P) w t e i z ht hi hz .i64 .i64 0 n (by omega) (by omega) hb' (by omega)
  simp only [Int.toNat_natCast, hs, Nat.mul_one, hz1] at hr
  exact hr
theorem Main.start {w2 wr : World} {n m Bq Bk Bc Bd : Nat} {p P0 : Nat → Bool} {cnt : Nat → Nat} {X : Nat → List Nat} {Va : Nat → Option Addr} {Vc : Nat → Nat} (h : Build w2 wr n m Bq Bk Bc Bd p P0 cnt X Va Vc) (hn : n ≤ maxLen) :
    Main w2 wr (wr.alloc (.cells (madeCells #[.int .i64 0] n) 3)) n m Bq Bk Bc Bd wr.heap.size p P0 cnt [] :=
  ⟨h.below.alloc h.below.size _, fun k _ h2 => Below.heap_alloc wr _ k h2, h.p.alloc _, h.kahn.alloc _, h.cnt.alloc _, World.ownsRow_made wr _ n (Nat.le_refl _) hn (by simp [size_madeCells]), h.o1, h.o2, h.o3, h.o4, h.top.lt⟩

set_option maxHeartbeats 8000000 in
set_option maxRecDepth 100000 in
theorem kahn_walk (a : Option Addr) (n c b o : Nat) (A : Nat → Option Addr) (L C rb ro : Nat → Nat) (D : Nat → Nat → Int) (ap : Option Addr) (m cp : Nat) (P : Nat → Bool) (w : World)
    (hn : n ≤ 9223372036854775807) (hm : m ≤ 9223372036854775807) (hL : ∀ i, i < n → L i ≤ 9223372036854775807) (hd : Deps w a n b o A L C rb ro D) (hnr : NilRows n A L C) (hna : a = none → n = 0 ∧ c = 0) (hnp : ap = none → m = 0 ∧ cp = 0)
    (hsrc : ∀ ad, ap = some ad → ∀ j, j < m → w.cell? (ad.add j) = some (.bool (P j))) :
    Calls Try.prog 4 #[.slice a n c, .slice ap m cp] w fun e w' => e = .returned (.bool true) ∧ Below w.heap.size w w' := by
  have HD : Hid (Deps w a n b o A L C rb ro D) := hd
  have HNR : Hid (NilRows n A L C) := hnr
  have HNA : Hid (a = none → n = 0 ∧ c = 0) := hna
  have HNP : Hid (ap = none → m = 0 ∧ cp = 0) := hnp
  have HS : Hid (∀ ad, ap = some ad → ∀ j, j < m → w.cell? (ad.add j) = some (.bool (P j))) := hsrc
  have HL0 : Hid (∀ i, i < n → L i ≤ 9223372036854775807) := hL
  clear hd hnr hna hnp hsrc hL
  go_enter Try.func4, Try.ntmps4
  go_wp2_with fail
  refine (bytes_14 a n c b o A L C rb ro D ap m cp _ hn hm HL0.out HD.out).mono ?_
  rintro e w' ⟨⟨q, rfl, hq⟩, rfl⟩
  cases q
  case false =>
    clear hq
    go_wp2
    go_ret
    exact ⟨rfl, Below.refl _ _⟩
  obtain ⟨s1, s2, s3⟩ := hq rfl
  have HL : Hid (∀ i, i < n → L i ≤ 1048576) := s3
  clear hq s3 hn hm
  by_cases h1 : 1024 < n
  case pos =>
    go_wp2
    go_ret
    exact ⟨rfl, Below.refl _ _⟩
  go_wp2_with fail
  refine (depsBytes_any a n c b o A L C rb ro D _ (by omega) HL.out HD.out).mono ?_
  rintro e w' ⟨⟨q, rfl, hq⟩, rfl⟩
  by_cases h2 : 1048576 < q + m
  case pos =>
    go_wp2
    go_ret
    exact ⟨rfl, Below.refl _ _⟩
  by_cases h3 : m < n
  case pos =>
    go_wp2
    go_ret
    exact ⟨rfl, Below.refl _ _⟩
  go_wp2_with fail
  refine (range_any a n c b o A L C rb ro D m _ (by omega) HL.out HD.out).mono ?_
  rintro e w' ⟨⟨q, rfl, hq⟩, rfl⟩
  cases q
  case false =>
    clear hq
    go_wp2
    go_ret
    exact ⟨rfl, Below.refl _ _⟩
  have HR : Hid (InRange n m L D) := hq rfl
  clear hq
  go_wp2_with fail
  refine (cloneDeps_any a n c b o A L C rb ro D _ (by omega) HNA.out HL.out HD.out HNR.out).mono ?_
  rintro e w1 ⟨a1, c1, A1, C1, rb1, rfl, hd1, hb1⟩
  have HD1 : Hid (Deps w1 a1 n w'.heap.size 0 A1 L C1 rb1 (fun _ => 0) D) := hd1
  have HB1 : Hid (Below w'.heap.size w' w1) := hb1
  clear hd1 hb1
  go_wp2_with fail
  refine (cloneBools_any ap m cp P _ (by omega) HNP.out (fun ad e j hj => ?_)).mono ?_
  · have := HS.out ad e j hj
    exact (HB1.out.cell (World.block_lt_of_cell? _ _ this)).trans this
  rintro e w2 ⟨ap1, cp1, rfl, hr2, hg2⟩
  have HG2 : Hid (Below w1.heap.size w1 w2) := ⟨hg2.os, hg2.tape, hg2.output, hg2.size, fun k hk => hg2.block k hk (by simp)⟩
  have HF2 : Hid (Flags w2 ap1 m w1.heap.size P) := ⟨fun h => (hr2 h).1, fun i hi => (hr2 (by omega)).2.cell hi⟩
  have HD2 : Hid (Deps w2 a1 n w'.heap.size 0 A1 L C1 rb1 (fun _ => 0) D) := HD1.out.below HG2.out
  have HB2 : Hid (Below w'.heap.size w' w2) := HB1.out.trans (HG2.out.mono HB1.out.size)
  have HR2 : Hid (0 < m → w2.rowIs w1.heap.size 4 m (fun j => .bool (P j))) := fun h => (hr2 h).2
  clear hr2 hg2 HD HNR HNA HNP HS HL0 HD1
  have hmk := run_make_row' (P := Try.prog) 23 4 (.bool false) 1 Try.underlying23 Try.info4 rfl .i64 .i64 m (by omega) (by omega)
  go_wp2
  -- p: a copy of placed
  have HA : Hid ((w2.alloc (.cells (madeCells #[.bool false] m) 4)).rowIs w2.heap.size 4 m (fun i => if i < 0 then .bool (P i) else .bool false) ∧ Below w2.heap.size w2 (w2.alloc (.cells (madeCells #[.bool false] m) 4))) :=
    ⟨(World.rowIs_made w2 _ m 4).congr (fun i _ => by simp), (Below.refl _ _).alloc (Nat.le_refl _) _⟩
  have HQ : Hid (w2.heap.size ≤ w2.heap.size) := Nat.le_refl _
  generalize hBq : w2.heap.size = Bq at *
  have HBq : Hid (w2.heap.size = Bq) := hBq
  clear hBq HQ
  generalize w2.alloc (.cells (madeCells #[.bool false] m) 4) = w3 at *
  go_loopw [7] (fun i wr => ∃ k : Nat, k ≤ m ∧ i = .int .i64 k ∧ Hid (wr.rowIs Bq 4 m (fun i => if i < k then .bool (P i) else .bool false) ∧ Below Bq w2 wr)) (fun i _ => m - (intOf i).toNat)
  case atStart => exact ⟨0, Nat.zero_le _, rfl, HA.out⟩
  case round =>
    obtain ⟨k, hk, rfl, HR1⟩ := hrel
    by_cases hlt : k < m
    · obtain rfl := HF2.out.top (by omega)
      have c1 := ((HF2.out.below (by rw [HBq.out]; exact HR1.out.2)).flag k hlt)
      have c2 := HR1.out.1.cell hlt
      have f2 := HR1.out.1.frozen k
      have hki : (k : Int) < (m : Int) := by omega
      simp at c2
      go_wp2
      go_roundw
      case rel =>
        refine ⟨k + 1, by omega, by go_num, ?_, HR1.out.2.setCell (Nat.le_refl _) _⟩
        exact (HR1.out.1.set k (.bool (P k))).congr fun i _ => fill_step k i (fun i => Value.bool (P i)) _
      case measure => simp [intOf]; omega
    · have HS0 : Hid (Script w2 wr n m Bq L D P P false 0) := ⟨by rw [HBq.out]; exact HR1.out.2, HR1.out.1.congr (fun i hi => by rw [if_pos (by omega)]), der_start _ _ _ _, fun _ h => h, fun _ => by have := unp_le P n; omega, fun e => by cases e⟩
      have HBq' : Hid (w2.heap.size ≤ Bq) := Nat.le_of_eq HBq.out
      clear HR1 HA HBq
      go_wp2
      clear hlt hk
      -- the script
      go_loopw [8, 9] (fun dn st wx => ∃ (step : Nat) (q : Bool) (p : Nat → Bool), step ≤ n + 1 ∧ st = .int .i64 step ∧ dn = .bool q ∧ Hid (Script w2 wx n m Bq L D P p q step)) (fun _ st _ => n + 1 - (intOf st).toNat)
      case atStart => exact ⟨0, false, P, Nat.zero_le _, rfl, rfl, HS0.out⟩
      case round =>
        clear HS0
        obtain ⟨step, q, p, hstep, rfl, rfl, HSC⟩ := hrel
        cases q with
        | true =>
          have HCL : Hid (Closed n L (fun i j => (D i j).toNat) (fun i => p i = true) ∧ Der n L (fun i j => (D i j).toNat) P p ∧ ∀ i, P i = true → p i = true) := ⟨HSC.out.closed, HSC.out.der, HSC.out.sub⟩
          have HPR : Hid (Pre w2 (wr.alloc (.cells (madeCells #[.bool false] m) 4)) m Bq wr.heap.size p P 0) := Pre.start HSC.out.below HSC.out.row HBq'.out
          have hmk3 := run_make_row' (P := Try.prog) 31 3 (.int .i64 0) 8 Try.underlying31 Try.info3 rfl .i64 .i64 n (by omega) (by omega)
          have hmk31 := run_make_row' (P := Try.prog) 22 31 (.slice none 0 0) 24 Try.underlying22 Try.info31 rfl .i64 .i64 m (by omega) (by omega)
          clear HSC
          by_cases hs : step ≤ n
          all_goals
            go_wp2
            clear hs hstep
            generalize wr.heap.size = Bk at *
            generalize wr.alloc (.cells (madeCells #[.bool false] m) 4) = w6 at *
            go_loopw [14] (fun i wx => ∃ k : Nat, k ≤ m ∧ i = .int .i64 k ∧ Hid (Pre w2 wx m Bq Bk p P k)) (fun i _ => m - (intOf i).toNat)
            case atStart => exact ⟨0, Nat.zero_le _, rfl, HPR.out⟩
            case round =>
              clear HPR
              obtain ⟨k, hk, rfl, HR1⟩ := hrel
              by_cases hlt : k < m
              · obtain rfl := HF2.out.top (by omega)
                have c1 := (HF2.out.below HR1.out.below).flag k hlt
                have c2 := HR1.out.kahn.cell hlt
                have f2 := HR1.out.kahn.frozen k
                have hki : (k : Int) < (m : Int) := by omega
                simp at c2
                go_wp2
                go_roundw
                case rel => exact ⟨k + 1, by omega, by go_num, HR1.out.step⟩
                case measure => simp [intOf]; omega
              · have HPM := HR1
                rw [show k = m from by omega] at HPM
                have HBD : Hid (Build w2 ((wr.alloc (.cells (madeCells #[.int .i64 0] n) 3)).alloc (.cells (madeCells #[.slice none 0 0] m) 31)) n m Bq Bk wr.heap.size (wr.heap.size + 1) p P (fun _ => 0) (fun _ => []) (fun _ => none) (fun _ => 0)) := Build.start HPM.out
                clear HR1 HPM
                go_wp2
                clear hlt hk hmk3 hmk31 hmk
                generalize (wr.alloc (.cells (madeCells #[.int .i64 0] n) 3)).alloc (.cells (madeCells #[.slice none 0 0] m) 31) = w7 at *
                generalize wr.heap.size = Bc at *
                obtain ⟨M, hM⟩ : ∃ M : Nat, M = 1048576 := ⟨_, rfl⟩
                have HM : Hid (M = 1048576) := hM
                clear hM
                obtain ⟨i0, hinf, hz0, hz1, hz2⟩ := info_parts Try.info3
                go_loopw [17] (fun t wx => ∃ i : Nat, i ≤ n ∧ t = .int .i64 i ∧ Hid (∃ cnt X Va Vc, Build w2 wx n m Bq Bk Bc (Bc + 1) p P cnt X Va Vc ∧ Making n L (fun i j => (D i j).toNat) P i 0 cnt X ∧ ∀ x, (X x).length ≤ i * M)) (fun t _ => n - (intOf t).toNat)
                case atStart => exact ⟨0, Nat.zero_le _, rfl, _, _, _, _, HBD.out, making_start _ _ _ _, lens_start M⟩
                case round =>
                  clear HBD
                  obtain ⟨i, hi, rfl, HE⟩ := hrel
                  by_cases hlt : i < n
                  · obtain ⟨cnt, X, Va, Vc, hb, hmak, hlen⟩ := HE.out
                    have hxl : Hid (Making n L (fun i j => (D i j).toNat) P i 0 cnt X) := hmak
                    have HB : Hid (Build w2 wr n m Bq Bk Bc (Bc + 1) p P cnt X Va Vc) := hb
                    have HXL : Hid (∀ x, (X x).length ≤ i * M) := hlen
                    clear hb hmak hlen HE
                    obtain rfl := HF2.out.top (by omega)
                    have hdx := HD2.out.below HB.out.below
                    have cp1 := (HF2.out.below HB.out.below).flag i (by omega)
                    have hta := hdx.top (by omega)
                    obtain rfl := hta
                    have cd1 : wr.cell? ⟨w'.heap.size, i, none⟩ = some (.slice (A1 i) (L i) (C1 i)) := by simpa using hdx.row i hlt
                    have hii : (i : Int) < (n : Int) := by omega
                    have him : (i : Int) < (m : Int) := by omega
                    have hli := HL.out i hlt
                    clear hdx
                    generalize hpi : P i = pi at *
                    have HPI : Hid (P i = pi) := hpi
                    clear hpi
                    cases pi with
                    | true =>
                      go_wp2
                      go_roundw
                      case rel => exact ⟨i + 1, by omega, by go_num, cnt, X, Va, Vc, HB.out, hxl.out.skip HPI.out, lens_skip HXL.out⟩
                      case measure => simp [intOf]; omega
                    | false =>
                      go_wp2
                      go_loopw [19] (fun t wx => ∃ j : Nat, j ≤ L i ∧ t = .int .i64 j ∧ Hid (∃ cnt X Va Vc, Build w2 wx n m Bq Bk Bc (Bc + 1) p P cnt X Va Vc ∧ Making n L (fun i j => (D i j).toNat) P i j cnt X ∧ ∀ x, (X x).length ≤ i * M + j)) (fun t _ => L i - (intOf t).toNat)
                      case atStart => exact ⟨0, Nat.zero_le _, rfl, cnt, X, Va, Vc, HB.out, hxl.out, lens_in HXL.out⟩
                      case round =>
                        clear cp1 cd1 HB hxl HXL
                        obtain ⟨j, hj, rfl, HE⟩ := hrel
                        clear cnt X Va Vc
                        by_cases hjl : j < L i
                        · obtain ⟨cnt, X, Va, Vc, hb, hmak, hlen⟩ := HE.out
                          have HMK : Hid (Making n L (fun i j => (D i j).toNat) P i j cnt X) := hmak
                          have HB : Hid (Build w2 wr n m Bq Bk Bc (Bc + 1) p P cnt X Va Vc) := hb
                          have HXL : Hid (∀ x, (X x).length ≤ i * M + j) := hlen
                          have hcb : cnt i ≤ 1048576 := by have := hmak.bound i; rw [prog_same] at this; omega
                          clear hb hmak hlen HE
                          have hdx := HD2.out.below HB.out.below
                          have hal := hdx.lies i hlt (by omega)
                          have c3 : wr.cell? ⟨rb1 i, j, none⟩ = some (.int .i64 (D i j)) := by simpa using hdx.num i hlt j hjl
                          obtain ⟨d0, d1⟩ := HR.out i hlt j hjl
                          obtain ⟨d, hd⟩ : ∃ d : Nat, D i j = d := ⟨(D i j).toNat, by omega⟩
                          have HDD : Hid ((D i j).toNat = d) := by rw [hd]; rfl
                          rw [hd] at c3 d0 d1
                          clear hd hdx
                          have hdm : d < m := by omega
                          have c4 := (HF2.out.below HB.out.below).flag d hdm
                          have hji : (j : Int) < (L i : Int) := by omega
                          generalize hpd : P d = pd at *
                          have HPD : Hid (P d = pd) := hpd
                          clear hpd
                          rw [hal]
                          cases pd with
                          | true =>
                            go_wp2
                            go_roundw
                            case rel => exact ⟨j + 1, by omega, by go_num, cnt, X, Va, Vc, HB.out, HMK.out.miss (by rw [HDD.out]; exact HPD.out), lens_more HXL.out⟩
                            case measure => simp [intOf]; omega
                          | false =>
                            have HB2 : Hid (Build w2 (wr.setCell ⟨Bc, i, none⟩ (.int .i64 ((cnt i : Int) + 1))) n m Bq Bk Bc (Bc + 1) p P (bump cnt i) X Va Vc) := HB.out.bump i
                            have c5 := HB.out.cnt.cell hlt
                            have f5 := HB.out.cnt.frozen i
                            have c6 := HB2.out.top.cell hdm
                            have hOW := HB2.out.own d hdm
                            have HOW : Hid ((wr.setCell ⟨Bc, i, none⟩ (.int .i64 ((cnt i : Int) + 1))).ownsRow (Bc + 1 + 1) 3 1 (.slice (Va d) (X d).length (Vc d)) (X d).length (ints (X d))) := hOW
                            have hxd := lens_bound HXL.out HM.out (by omega) (by omega) d
                            have HSZ : Hid (Bc + 1 < wr.heap.size) := HB.out.top.lt
                            clear hOW
                            have hsz : Bc + 1 + 1 ≤ wr.heap.size + 1 := by have := HSZ.out; omega
                            have HNC : Hid (∀ j y, [Value.int .i64 (i : Int)][j]? = some y → ((wr.setCell ⟨Bc, i, none⟩ (.int .i64 ((cnt i : Int) + 1))).alloc (.cells #[.int .i64 (i : Int)] 3)).cell? ((⟨wr.heap.size, 0, none⟩ : Addr).add j) = some y) := new_cell wr Bc i _ _
                            go_wp2_with (at_builtin; refine wpList_append_own_at _ rfl (.tmp 187) (.tmp 189) 31 rfl (Bc + 1 + 1) 3 i0 (.int .i64 0) 1 8 Try.underlying31 hinf hz0 hz1 hz2 rfl (by decide) _ _ _ rfl (HOW.out.alloc _) ⟨wr.heap.size, 0, none⟩ 1 1 [.int .i64 (i : Int)] rfl rfl HNC.out (one_int i) (by unfold maxLen; omega) (by omega) (by simpa using hsz) ?_)
                            intro v4 w4 hown4 hgrow4 _ hloc4
                            obtain ⟨va, vc, hv4⟩ := slice_shape hown4
                            subst hv4
                            have HPU : Hid (Build w2 (w4.setCell ⟨Bc + 1, d, none⟩ (.slice va ((X d).length + 1) vc)) n m Bq Bk Bc (Bc + 1) p P (bump cnt i) (push X d i) (fun y => if y = d then va else Va y) (fun y => if y = d then vc else Vc y)) :=
                              HB2.out.push hdm hgrow4 hown4 (by simpa using hloc4)
                            have hnb : some (Bc + 1) ≠ (Value.slice (Va d) (X d).length (Vc d)).ownBlock := fun e => by have := (HB2.out.ge hdm e.symm).1; omega
                            have c7 := (rowIs_grown (HB2.out.top.alloc _) hgrow4 hnb).cell hdm
                            have f7 := (rowIs_grown (HB2.out.top.alloc _) hgrow4 hnb).frozen d
                            have hdmi : (d : Int) < (m : Int) := by omega
                            clear hown4 hgrow4 hloc4 hnb c5 f5 c6 c3 c4
                            go_wp2
                            go_roundw
                            case rel => exact ⟨j + 1, by omega, by go_num, _, _, _, _, HPU.out, by have := HMK.out.hit HPI.out (by rw [HDD.out]; exact HPD.out); rw [HDD.out] at this; exact this, lens_push HXL.out⟩
                            case measure => simp [intOf]; omega
                        · obtain ⟨cnt, X, Va, Vc, hb, hmak, hlen⟩ := HE.out
                          go_wp2
                          go_roundw
                          case rel => exact ⟨i + 1, by omega, by go_num, cnt, X, Va, Vc, hb, hmak.row (by omega), lens_out hlen (by rw [HM.out]; omega)⟩
                          case measure => simp [intOf]; omega
                  · obtain ⟨cnt, X, Va, Vc, hb, hmak, hlen⟩ := HE.out
                    rw [show i = n from by omega] at hmak
                    obtain ⟨rx, hdx, hrx⟩ := hb.deps
                    have hqz := run_make_zero (P := Try.prog) 31 3 (.int .i64 0) 8 Try.underlying31 Try.info3 rfl n (by omega) (by omega)
                    have HMN : Hid (Main w2 wr (wr.alloc (.cells (madeCells #[.int .i64 0] n) 3)) n m Bq Bk Bc (Bc + 1) wr.heap.size p P cnt []) := Main.start hb (by unfold maxLen; omega)
                    have HX8 : Hid (Deps wr (some ⟨Bc + 1, 0, none⟩) m (Bc + 1) 0 Va (fun x => (X x).length) Vc rx (fun _ => 0) (fun x j => ((X x).getD j 0 : Nat))) := hdx
                    have HRX : Hid (∀ x, x < m → 0 < (X x).length → Bc + 1 < rx x ∧ rx x < wr.heap.size) := hrx
                    have HDN : Hid ((∀ w, w < n → P w = false → cnt w = cntR (fun y => !P y) (fun j => (D w j).toNat) (L w)) ∧ Lists n L (fun i j => (D i j).toNat) P X ∧ ∀ x, ∀ w ∈ X x, w < n ∧ P w = false) := hmak.done
                    have HXM : Hid (∀ x, (X x).length ≤ 2147483648) := fun x => lens_bound (j := 0) hlen HM.out (by omega) (by omega) x
                    have HOR : Hid (Bk < Bc) := hb.o3
                    clear hb hmak hlen hdx hrx HE HM
                    go_wp2
                    clear hqz hlt
                    obtain ⟨w8, hw8⟩ : ∃ w8, w8 = wr := ⟨_, rfl⟩
                    subst hw8
                    generalize w8.alloc (.cells (madeCells #[.int .i64 0] n) 3) = w9 at *
                    generalize w8.heap.size = Bu at *
                    go_loopw [21, 22] (fun qv t wx => ∃ (i : Nat) (Q : List Nat), i ≤ n ∧ Q.length ≤ i ∧ t = .int .i64 i ∧ qv = .slice (some ⟨Bu, 0, none⟩) Q.length n ∧ Hid (Main w2 w8 wx n m Bq Bk Bc (Bc + 1) Bu p P cnt Q ∧ Starting n i P cnt Q)) (fun _ t _ => n - (intOf t).toNat)
                    case atStart => exact ⟨0, [], Nat.zero_le _, Nat.zero_le _, rfl, rfl, HMN.out, by simp, fun i => by simp⟩
                    case round =>
                      clear HMN
                      obtain ⟨i, Q, hi, hqi, rfl, rfl, HQ⟩ := hrel
                      by_cases hlt : i < n
                      · obtain rfl := HF2.out.top (by omega)
                        have cp1 := (HF2.out.below HQ.out.1.below).flag i (by omega)
                        have cc := HQ.out.1.cnt.cell hlt
                        have hii : (i : Int) < (n : Int) := by omega
                        have him : (i : Int) < (m : Int) := by omega
                        generalize hpi : P i = pi at *
                        have HPI : Hid (P i = pi) := hpi
                        clear hpi
                        cases pi with
                        | true =>
                          go_wp2
                          go_roundw
                          case rel => exact ⟨i + 1, Q, by omega, by omega, by go_num, rfl, HQ.out.1, HQ.out.2.miss (fun h => by rw [HPI.out] at h; cases h.1)⟩
                          case measure => simp [intOf]; omega
                        | false =>
                          by_cases h0 : cnt i = 0
                          · have hz : ((cnt i : Int) == 0) = true := beq_iff_eq.2 (by omega)
                            have H0 : Hid (cnt i = 0) := h0
                            clear h0
                            have HOW : Hid (wr.ownsRow Bu 3 1 (.slice (some ⟨Bu, 0, none⟩) Q.length n) Q.length (ints Q)) := HQ.out.1.queue
                            go_wp2_with (at_builtin; refine wpList_append_fits _ rfl (.tmp 211) (.tmp 213) 31 rfl Bu 3 i0 1 Try.underlying31 hinf hz1 Bu Q.length n _ rfl (HOW.out.alloc _) ⟨wr.heap.size, 0, none⟩ 1 1 [.int .i64 (i : Int)] rfl rfl (cell_one_new _ _ _) (one_int i) (by omega) ?_)
                            intro w4 hown4 hgrow4
                            have HM4 : Hid (Main w2 w8 w4 n m Bq Bk Bc (Bc + 1) Bu p P cnt (Q ++ [i])) := HQ.out.1.queued hgrow4 hown4
                            clear hown4 hgrow4 cp1 cc
                            go_wp2
                            go_roundw
                            case rel => exact ⟨i + 1, Q ++ [i], by omega, by simp; omega, by go_num, by simp, HM4.out, HQ.out.2.hit HPI.out H0.out⟩
                            case measure => simp [intOf]; omega
                          · have hz : ((cnt i : Int) == 0) = false := beq_eq_false_iff_ne.2 (by omega)
                            have H0 : Hid (¬ cnt i = 0) := h0
                            clear h0
                            go_wp2
                            go_roundw
                            case rel => exact ⟨i + 1, Q, by omega, by omega, by go_num, rfl, HQ.out.1, HQ.out.2.miss (fun h => H0.out h.2)⟩
                            case measure => simp [intOf]; omega
                      · have hst := HQ.out.2
                        rw [show i = n from by omega] at hst
                        have HKS : Hid (Main w2 w8 wr n m Bq Bk Bc (Bc + 1) Bu p P cnt Q ∧ Kahn n L (fun i j => (D i j).toNat) P P cnt Q 0) := ⟨HQ.out.1, kahn_start hst HDN.out.1⟩
                        have hqn : Q.length ≤ n := by omega
                        clear hst HQ
                        go_wp2
                        clear hlt hi hqi
                        go_loopw [21, 23] (fun qv t wx => ∃ (h : Nat) (Q : List Nat) (K : Nat → Bool) (cnt : Nat → Nat), h ≤ Q.length ∧ Q.length ≤ n ∧ t = .int .i64 h ∧ qv = .slice (some ⟨Bu, 0, none⟩) Q.length n ∧ Hid (Main w2 w8 wx n m Bq Bk Bc (Bc + 1) Bu p K cnt Q ∧ Kahn n L (fun i j => (D i j).toNat) P K cnt Q h)) (fun _ t _ => n - (intOf t).toNat)
                        case atStart => exact ⟨0, Q, P, cnt, Nat.zero_le _, hqn, rfl, rfl, HKS.out⟩
                        case round =>
                          have HLS : Hid (Lists n L (fun i j => (D i j).toNat) P X ∧ ∀ x, ∀ w ∈ X x, w < n ∧ P w = false) := HDN.out.2
                          clear HKS hqn HDN
                          obtain ⟨h, Q, K, cnt, hh, hqn, rfl, rfl, HQ⟩ := hrel
                          by_cases hlt : h < Q.length
                          · obtain ⟨_, hxn, _, _⟩ := HQ.out.2.head hlt
                            have HK9 : Hid (Main w2 w8 (wr.setCell ⟨Bk, Q.getD h 0, none⟩ (.bool true)) n m Bq Bk Bc (Bc + 1) Bu p (put K (Q.getD h 0)) cnt Q ∧ Kahn9 n L (fun i j => (D i j).toNat) P (put K (Q.getD h 0)) cnt Q h 0 (X (Q.getD h 0))) := ⟨HQ.out.1.mark _, HQ.out.2.enter hlt HLS.out.1⟩
                            have cq : wr.cell? ⟨Bu, h, none⟩ = some (.int .i64 (Q.getD h 0 : Nat)) := by
                              have := HQ.out.1.queue.cellAt h (by omega)
                              rw [this]
                              simp [ints, hlt]
                            generalize Q.getD h 0 = x at *
                            have ck := HQ.out.1.kahn.cell (i := x) (by omega)
                            have fk := HQ.out.1.kahn.frozen x
                            have ct : (wr.setCell ⟨Bk, x, none⟩ (.bool true)).cell? ⟨Bc + 1, x, none⟩ = some (.slice (Va x) (X x).length (Vc x)) := by simpa using (HK9.out.1.deps HX8.out HRX.out).row x (by omega)
                            have hhi : (h : Int) < (Q.length : Int) := by omega
                            have hxi : (x : Int) < (m : Int) := by omega
                            have hxl := HXM.out x
                            go_wp2
                            clear cq ck fk ct
                            go_loopw [21, 26] (fun qv t wx => ∃ (j : Nat) (Q : List Nat) (cnt : Nat → Nat), j ≤ (X x).length ∧ Q.length ≤ n ∧ t = .int .i64 j ∧ qv = .slice (some ⟨Bu, 0, none⟩) Q.length n ∧ Hid (Main w2 w8 wx n m Bq Bk Bc (Bc + 1) Bu p (put K x) cnt Q ∧ Kahn9 n L (fun i j => (D i j).toNat) P (put K x) cnt Q h j (X x))) (fun _ t _ => (X x).length - (intOf t).toNat)
                            case atStart => exact ⟨0, Q, cnt, Nat.zero_le _, hqn, rfl, rfl, HK9.out⟩
                            case round =>
                              have hhn : h < n := by omega
                              clear HK9 HQ hh hhi hlt hqn
                              obtain ⟨j, Q, cnt, hj, hqn, rfl, rfl, HQ⟩ := hrel
                              by_cases hjl : j < (X x).length
                              · obtain ⟨hyn, hyp, hy1⟩ := HQ.out.2.next hjl (HLS.out.2 x)
                                have hdx := HQ.out.1.deps HX8.out HRX.out
                                have hal := hdx.lies x (by omega) (by omega)
                                have cy : wr.cell? ⟨rx x, j, none⟩ = some (.int .i64 ((X x).getD j 0 : Nat)) := by simpa using hdx.num x (by omega) j hjl
                                have hcb := HQ.out.2.bound hyn hyp
                                have hly := HL.out _ hyn
                                have HHIT : Hid (cnt ((X x).getD j 0) = 1 → Kahn9 n L (fun i j => (D i j).toNat) P (put K x) (dec cnt ((X x).getD j 0)) (Q ++ [(X x).getD j 0]) h (j + 1) (X x)) := fun e => HQ.out.2.hit hjl (HLS.out.2 x) e
                                have HMISS : Hid (2 ≤ cnt ((X x).getD j 0) → Kahn9 n L (fun i j => (D i j).toNat) P (put K x) (dec cnt ((X x).getD j 0)) Q h (j + 1) (X x)) := fun e => HQ.out.2.miss hjl e
                                generalize (X x).getD j 0 = y at *
                                have cc := HQ.out.1.cnt.cell hyn
                                have fc := HQ.out.1.cnt.frozen y
                                have HMD : Hid (Main w2 w8 (wr.setCell ⟨Bc, y, none⟩ (.int .i64 ((cnt y : Int) - 1))) n m Bq Bk Bc (Bc + 1) Bu p (put K x) (dec cnt y) Q) := HQ.out.1.dec y hy1
                                have hji : (j : Int) < ((X x).length : Int) := by omega
                                have hyi : (y : Int) < (n : Int) := by omega
                                have hcc : cnt y ≤ 4294967296 := by omega
                                clear hdx hyp hcb hly
                                rw [hal]
                                by_cases h1 : cnt y = 1
                                · have hz : ((cnt y : Int) - 1 == 0) = true := beq_iff_eq.2 (by omega)
                                  have H1 : Hid (Kahn9 n L (fun i j => (D i j).toNat) P (put K x) (dec cnt y) (Q ++ [y]) h (j + 1) (X x)) := HHIT.out h1
                                  have hql : (Q ++ [y]).length ≤ n := H1.out.q.length
                                  have hql2 : Q.length + 1 ≤ n := by simpa using hql
                                  have HNC : Hid (∀ j z, [Value.int .i64 (y : Int)][j]? = some z → ((wr.setCell ⟨Bc, y, none⟩ (.int .i64 ((cnt y : Int) - 1))).alloc (.cells #[.int .i64 (y : Int)] 3)).cell? ((⟨wr.heap.size, 0, none⟩ : Addr).add j) = some z) := new_cell wr Bc y _ _
                                  have HOW : Hid ((wr.setCell ⟨Bc, y, none⟩ (.int .i64 ((cnt y : Int) - 1))).ownsRow Bu 3 1 (.slice (some ⟨Bu, 0, none⟩) Q.length n) Q.length (ints Q)) := HMD.out.queue
                                  clear h1 hql
                                  go_wp2_with (at_builtin; refine wpList_append_fits _ rfl (.tmp 253) (.tmp 255) 31 rfl Bu 3 i0 1 Try.underlying31 hinf hz1 Bu Q.length n _ rfl (HOW.out.alloc _) ⟨wr.heap.size, 0, none⟩ 1 1 [.int .i64 (y : Int)] rfl rfl HNC.out (one_int y) (by omega) ?_)
                                  intro w4 hown4 hgrow4
                                  have HM4 : Hid (Main w2 w8 w4 n m Bq Bk Bc (Bc + 1) Bu p (put K x) (dec cnt y) (Q ++ [y])) := HMD.out.queued hgrow4 hown4
                                  clear hown4 hgrow4 cc cy
                                  go_wp2
                                  go_roundw
                                  case rel => exact ⟨j + 1, Q ++ [y], dec cnt y, by omega, by simp; omega, by go_num, by simp, HM4.out, H1.out⟩
                                  case measure => simp [intOf]; omega
                                · have hz : ((cnt y : Int) - 1 == 0) = false := beq_eq_false_iff_ne.2 (by omega)
                                  have H1 : Hid (Kahn9 n L (fun i j => (D i j).toNat) P (put K x) (dec cnt y) Q h (j + 1) (X x)) := HMISS.out (by omega)
                                  clear h1
                                  go_wp2
                                  go_roundw
                                  case rel => exact ⟨j + 1, Q, dec cnt y, by omega, hqn, by go_num, rfl, HMD.out, H1.out⟩
                                  case measure => simp [intOf]; omega
                              · have HLV : Hid (Kahn n L (fun i j => (D i j).toNat) P (put K x) cnt Q (h + 1)) := HQ.out.2.leave (by omega)
                                go_wp2
                                go_roundw
                                case rel => exact ⟨h + 1, Q, put K x, cnt, HLV.out.le, hqn, by go_num, rfl, HQ.out.1, HLV.out⟩
                                case measure => simp [intOf]; omega
                          · have HEQ : Hid (∀ i, p i = K i) := fun i => same HCL.out.2.1 HQ.out.2.der HCL.out.2.2 (fun i hi => (HQ.out.2.set i).2 (.inl hi)) HCL.out.1 (HQ.out.2.closed (by omega)) i
                            have HMF : Hid (Main w2 w8 wr n m Bq Bk Bc (Bc + 1) Bu p K cnt Q) := HQ.out.1
                            clear HQ
                            go_wp2
                            clear hlt hh hqn
                            go_loopw [28] (fun t wx => ∃ i : Nat, i ≤ m ∧ t = .int .i64 i ∧ Hid (wr.grownBy wx none)) (fun t _ => m - (intOf t).toNat)
                            case atStart => exact ⟨0, Nat.zero_le _, rfl, grownBy_refl _ _⟩
                            case round =>
                              obtain ⟨i, hi, rfl, HG⟩ := hrel
                              by_cases hlt : i < m
                              · have cA := (rowIs_grown HMF.out.p HG.out (by simp)).cell hlt
                                have cB := (rowIs_grown HMF.out.kahn HG.out (by simp)).cell hlt
                                simp only [← HEQ.out i] at cB
                                have him : (i : Int) < (m : Int) := by omega
                                generalize p i = pi at *
                                go_wp2
                                go_region
                                go_wp2
                                go_roundw
                                case rel => exact ⟨i + 1, by omega, by go_num, grownBy_drew HG.out⟩
                                case measure => simp [intOf]; omega
                              · go_wp2
                                go_ret
                                exact ⟨rfl, (HB2.out.trans (HMF.out.below.mono HB2.out.size)).grown HG.out (Nat.le_trans HB2.out.size HMF.out.below.size) (fun k hk => by cases hk)⟩
        | false =>
          have hsn : step ≤ n := by have := HSC.out.run rfl; omega
          go_wp2_with fail
          refine (zzfirst_any a1 n c1 w'.heap.size 0 A1 L C1 rb1 (fun _ => 0) D _ m m Bq p _ (by omega) (by omega) (by omega) HL.out (HD2.out.below HSC.out.below) ⟨fun _ => rfl, fun i hi => HSC.out.row.cell hi⟩ HR.out).mono ?_
          rintro e w5 ⟨⟨r, rfl, hr⟩, rfl⟩
          rcases hr with ⟨rfl, hno⟩ | ⟨i, rfl, hi, hready, _⟩
          · have HST : Hid (Script w2 w5 n m Bq L D P p true (step + 1)) := HSC.out.stop hno
            clear hno
            go_wp2
            go_roundw
            case rel => exact ⟨step + 1, true, p, by omega, by go_num, rfl, HST.out⟩
            case measure => simp [intOf]; omega
          · have HRD : Hid (Ready p L D i) := hready
            have hm1 : ((i : Int) == -1) = false := beq_eq_false_iff_ne.2 (by omega)
            have hi1 : decide ((n : Int) ≤ (i : Int)) = false := decide_eq_false (by omega)
            have hi2 : (i : Int) < (n : Int) := by omega
            have hi3 : (i : Int) < (m : Int) := by omega
            have c1p : w5.cell? ⟨Bq, i, none⟩ = some (.bool false) := by have := HSC.out.row.cell (i := i) (by omega); rw [this, HRD.out.1]
            have f1p := HSC.out.row.frozen i
            have hdx := HD2.out.below HSC.out.below
            have c1d : w5.cell? ⟨w'.heap.size, i, none⟩ = some (.slice (A1 i) (L i) (C1 i)) := by simpa using hdx.row i hi
            have HDX : Hid (Deps w5 a1 n w'.heap.size 0 A1 L C1 rb1 (fun _ => 0) D) := hdx
            have hta := hdx.top (by omega)
            obtain rfl := hta
            have hli := HL.out i hi
            have HPL : Hid (Script w2 (w5.setCell ⟨Bq, i, none⟩ (.bool true)) n m Bq L D P (put p i) false (step + 1)) := HSC.out.place HBq'.out hi hready
            clear hready hdx
            go_wp2
            go_loop [12] (fun t => ∃ k : Nat, k ≤ L i ∧ t = .int .i64 k) (fun t => L i - (intOf t).toNat)
            case atStart => exact ⟨0, Nat.zero_le _, rfl⟩
            case round =>
              obtain ⟨k, hk, rfl⟩ := hrel
              by_cases hkl : k < L i
              · have hal := HDX.out.lies i hi (by omega)
                have c3 : w5.cell? ⟨rb1 i, k, none⟩ = some (.int .i64 (D i k)) := by simpa using HDX.out.num i hi k hkl
                obtain ⟨d0, d1⟩ := HR.out i hi k hkl
                have hpd := HRD.out.2 k hkl
                obtain ⟨d, hd⟩ : ∃ d : Nat, D i k = d := ⟨(D i k).toNat, by omega⟩
                rw [hd] at c3 d0 d1 hpd
                rw [show ((d : Int)).toNat = d from rfl] at hpd
                clear hd
                have c4 : w5.cell? ⟨Bq, d, none⟩ = some (.bool true) := by have := HSC.out.row.cell (i := d) (by omega); rw [this, hpd]
                have hki : (k : Int) < (L i : Int) := by omega
                clear hpd
                rw [hal] at c1d ⊢
                go_wp2
                go_round
                case rel => exact ⟨k + 1, by omega, by go_num⟩
                case measure => simp [intOf]; omega
              · go_wp2
                go_roundw
                case rel => exact ⟨step + 1, false, put p i, by omega, by go_num, rfl, HPL.out⟩
                case measure => simp [intOf]; omega
end Go.Proofs.Qxb6602874a
