import Derived.Test.Qxb6602790aQBytes
namespace Go.Proofs.Qxb6602790a
open Go.RowKit Go.Deep

/-- WHAT A LIST OF SETS HOLDS. -/
structure Dat where
  nb : Nat → Int
  na : Nat → Int
  dp : Nat → Int
  ln : Nat → Nat
  ls : Nat → List ByteArray
  gn : Nat → Nat
  t : Nat → Nat → ByteArray
  a : Nat → Nat → Bool
  inn : Nat → Nat → Nat
  is : Nat → Nat → List ByteArray
/-- .. and where it lies. -/
structure Adr where
  lp : Nat → Option Addr
  lc : Nat → Nat
  gp : Nat → Option Addr
  gc : Nat → Nat
  ip : Nat → Nat → Option Addr
  ic : Nat → Nat → Nat

def SetCells (w : World) (b o : Nat) (D : Dat) (X : Adr) (j : Nat) : Prop :=
  w.cell? ⟨b, o, none⟩ = some (.int .i64 (D.nb j)) ∧ w.cell? ⟨b, o + 1, none⟩ = some (.int .i64 (D.na j)) ∧ w.cell? ⟨b, o + 2, none⟩ = some (.int .i64 (D.dp j)) ∧
  w.cell? ⟨b, o + 3, none⟩ = some (.slice (X.lp j) (D.ln j) (X.lc j)) ∧ w.cell? ⟨b, o + 4, none⟩ = some (.slice (X.gp j) (D.gn j) (X.gc j))
def GrCells (w : World) (b o : Nat) (D : Dat) (X : Adr) (j i : Nat) : Prop :=
  w.cell? ⟨b, o, none⟩ = some (.string (D.t j i)) ∧ w.cell? ⟨b, o + 1, none⟩ = some (.bool (D.a j i)) ∧ w.cell? ⟨b, o + 2, none⟩ = some (.slice (X.ip j i) (D.inn j i) (X.ic j i))

/-- A LIST OF SETS THAT CAN BE READ. -/
structure Reads (w : World) (p : Option Addr) (n : Nat) (D : Dat) (X : Adr) : Prop where
  at_ : ∀ j, j < n → ∃ b off, p = some ⟨b, off, none⟩ ∧ SetCells w b (off + j * 5) D X j
  lic : ∀ j, j < n → Strs w (X.lp j) (D.ln j) (D.ls j)
  licn : ∀ j, j < n → X.lp j = none → D.ln j = 0 ∧ X.lc j = 0
  gr : ∀ j, j < n → ∀ i, i < D.gn j → ∃ b off, X.gp j = some ⟨b, off, none⟩ ∧ GrCells w b (off + i * 3) D X j i
  grn : ∀ j, j < n → X.gp j = none → D.gn j = 0 ∧ X.gc j = 0
  ids : ∀ j, j < n → ∀ i, i < D.gn j → Strs w (X.ip j i) (D.inn j i) (D.is j i)
  idsn : ∀ j, j < n → ∀ i, i < D.gn j → X.ip j i = none → D.inn j i = 0 ∧ X.ic j i = 0

/-- Nothing is longer than Go can count. -/
structure Counted (n : Nat) (D : Dat) : Prop where
  len : n ≤ 9223372036854775807
  ln : ∀ j, j < n → D.ln j ≤ 9223372036854775807
  ls : ∀ j, j < n → ∀ k, k < D.ln j → ((D.ls j).getD k ByteArray.empty).size ≤ 9223372036854775807
  gn : ∀ j, j < n → D.gn j ≤ 9223372036854775807
  t : ∀ j, j < n → ∀ i, i < D.gn j → (D.t j i).size ≤ 9223372036854775807
  inn : ∀ j, j < n → ∀ i, i < D.gn j → D.inn j i ≤ 9223372036854775807
  is : ∀ j, j < n → ∀ i, i < D.gn j → ∀ k, k < D.inn j i → ((D.is j i).getD k ByteArray.empty).size ≤ 9223372036854775807

/-- .. than 1 << 20. -/
def SmallGr (D : Dat) (j i : Nat) : Prop := (D.t j i).size ≤ 1048576 ∧ Short (D.inn j i) (D.is j i)
def SmallGrs (D : Dat) (j k : Nat) : Prop := ∀ i, i < k → SmallGr D j i
def SmallSet (D : Dat) (j : Nat) : Prop := Short (D.ln j) (D.ls j) ∧ D.gn j ≤ 1048576 ∧ SmallGrs D j (D.gn j)
def Small (D : Dat) (n : Nat) : Prop := ∀ j, j < n → SmallSet D j
theorem SmallGrs.succ {D : Dat} {j k : Nat} (h : SmallGrs D j k) (hk : SmallGr D j k) : SmallGrs D j (k + 1) := fun i hi => by
  by_cases e : i = k
  · rw [e]; exact hk
  · exact h i (by omega)
theorem Small.succ {D : Dat} {k : Nat} (h : Small D k) (hk : SmallSet D k) : Small D (k + 1) := fun i hi => by
  by_cases e : i = k
  · rw [e]; exact hk
  · exact h i (by omega)

set_option maxHeartbeats 8000000 in
set_option maxRecDepth 100000 in
theorem zbytes_w (p : Option Addr) (n c : Nat) (D : Dat) (X : Adr) (w : World) (h : Reads w p n D X) (hc : Counted n D) :
    Calls Try.prog 24 #[.slice p n c] w fun e w' => AnswersQ e (fun q => q = true → n ≤ 1048576 ∧ Small D n) ∧ w' = w := by
  have H := hid h
  have HC := hid hc
  have hn := hc.len
  clear h hc
  by_cases h1 : 1048576 < n
  · go_enter Try.func24, Try.ntmps24
    go_wp2
    go_ret
    exact ⟨⟨false, rfl, fun h => by cases h⟩, rfl⟩
  · go_enter Try.func24, Try.ntmps24
    go_wp2
    go_loop [3, 4] (fun t i => ∃ j q : Nat, j ≤ n ∧ q ≤ 1048576 ∧ i = .int .i64 j ∧ t = .int .i64 q ∧ Hid (Small D j)) (fun _ i => n - (intOf i).toNat)
    case atStart => exact ⟨0, n, Nat.zero_le _, by omega, rfl, by go_num, fun j hj => absurd hj (by omega)⟩
    case round =>
      obtain ⟨j, q, hj, hq, rfl, rfl, HJ⟩ := hrel
      by_cases hlt : j < n
      · obtain ⟨b, off, hpe, _, _, _, hL, hG⟩ := H.out.at_ j hlt
        subst hpe
        have HLS := hid (H.out.lic j hlt)
        have HLC := hid (HC.out.ls j hlt)
        have HGR := hid (H.out.gr j hlt)
        have HIS := hid (H.out.ids j hlt)
        have HGT := hid (HC.out.t j hlt)
        have HIN := hid (HC.out.inn j hlt)
        have HIC := hid (HC.out.is j hlt)
        have hln := HC.out.ln j hlt
        have hgn := HC.out.gn j hlt
        generalize X.lp j = lp at *
        generalize X.lc j = lc at *
        generalize hGP : X.gp j = gp at *
        clear hGP
        generalize X.gc j = gc at *
        generalize hLN : D.ln j = ln at *
        generalize hGN : D.gn j = gn at *
        have HLN := hid hLN
        have HGN := hid hGN
        clear hLN hGN
        by_cases h2 : 1048576 < ln
        · go_wp2
          go_ret
          exact ⟨⟨false, rfl, fun h => by cases h⟩, rfl⟩
        · by_cases h3 : 1048576 < q + ln
          · go_wp2
            go_ret
            exact ⟨⟨false, rfl, fun h => by cases h⟩, rfl⟩
          · go_wp2
            go_loop [3, 5] (fun t i => ∃ k q : Nat, k ≤ ln ∧ q ≤ 1048576 ∧ i = .int .i64 k ∧ t = .int .i64 q ∧ Hid (ShortTo (D.ls j) k)) (fun _ i => ln - (intOf i).toNat)
            case atStart => exact ⟨0, q + ln, Nat.zero_le _, by omega, rfl, by go_num, fun j hj => absurd hj (by omega)⟩
            case round =>
              clear hq h3
              obtain ⟨k, q1, hk, hq1, rfl, rfl, HK⟩ := hrel
              by_cases hkl : k < ln
              · obtain ⟨b5, off5, hpe, hcc⟩ := HLS.out.at_ k hkl
                subst hpe
                have hcell := hcc k hkl
                have hl := HLC.out k hkl
                have HNx := hid (HK.out.succ (k := k))
                clear hcc
                generalize (D.ls j).getD k ByteArray.empty = s at hcell hl HNx
                by_cases h4 : 1048576 < s.size
                · go_wp2
                  go_ret
                  exact ⟨⟨false, rfl, fun h => by cases h⟩, rfl⟩
                · by_cases h5 : 1048576 < q1 + s.size
                  · go_wp2
                    go_ret
                    exact ⟨⟨false, rfl, fun h => by cases h⟩, rfl⟩
                  · go_wp2
                    go_round
                    case rel => exact ⟨k + 1, q1 + s.size, by omega, by omega, by go_num, by go_num, HNx.out (by omega)⟩
                    case measure => simp [intOf]; omega
              · have HSL : Hid (Short (D.ln j) (D.ls j)) := by rw [HLN.out]; exact ⟨by omega, fun j hj => HK.out j (by omega)⟩
                clear HK
                by_cases h4 : 1048576 < gn
                · go_wp2
                  go_ret
                  exact ⟨⟨false, rfl, fun h => by cases h⟩, rfl⟩
                · by_cases h5 : 1048576 < q1 + gn
                  · go_wp2
                    go_ret
                    exact ⟨⟨false, rfl, fun h => by cases h⟩, rfl⟩
                  · go_wp2
                    go_loop [3, 6, 7] (fun t i _ => ∃ k q : Nat, k ≤ gn ∧ q ≤ 1048576 ∧ i = .int .i64 k ∧ t = .int .i64 q ∧ Hid (SmallGrs D j k)) (fun _ i _ => gn - (intOf i).toNat)
                    case atStart => exact ⟨0, q1 + gn, Nat.zero_le _, by omega, rfl, by go_num, fun j hj => absurd hj (by omega)⟩
                    case round =>
                      clear hq1 h5 hk hkl
                      obtain ⟨i, q2, hi, hq2, rfl, rfl, HI⟩ := hrel
                      by_cases hig : i < gn
                      · obtain ⟨b6, off6, hpe, hT, hA, hI⟩ := HGR.out i hig
                        subst hpe
                        have HIS1 := hid (HIS.out i hig)
                        have HIC1 := hid (HIC.out i hig)
                        have hts := HGT.out i hig
                        have hil := HIN.out i hig
                        have HSg := hid (HI.out.succ (k := i))
                        generalize hti : D.t j i = ti at *
                        generalize X.ip j i = ip at *
                        generalize X.ic j i = ic at *
                        generalize hin : D.inn j i = inn at *
                        have HTI := hid hti
                        have HII := hid hin
                        clear hti hin
                        by_cases h6 : 1048576 < ti.size
                        · go_wp2
                          go_ret
                          exact ⟨⟨false, rfl, fun h => by cases h⟩, rfl⟩
                        · by_cases h7 : 1048576 < q2 + ti.size
                          · go_wp2
                            go_ret
                            exact ⟨⟨false, rfl, fun h => by cases h⟩, rfl⟩
                          · by_cases h8 : 1048576 < inn
                            · go_wp2
                              go_ret
                              exact ⟨⟨false, rfl, fun h => by cases h⟩, rfl⟩
                            · by_cases h9 : 1048576 < q2 + ti.size + inn
                              · go_wp2
                                go_ret
                                exact ⟨⟨false, rfl, fun h => by cases h⟩, rfl⟩
                              · go_wp2
                                go_loop [3, 7] (fun t v => ∃ k q : Nat, k ≤ inn ∧ q ≤ 1048576 ∧ v = .int .i64 k ∧ t = .int .i64 q ∧ Hid (ShortTo (D.is j i) k)) (fun _ v => inn - (intOf v).toNat)
                                case atStart => exact ⟨0, q2 + ti.size + inn, Nat.zero_le _, by omega, rfl, by go_num, fun j hj => absurd hj (by omega)⟩
                                case round =>
                                  clear hq2 h7 h9
                                  obtain ⟨k, q3, hk, hq3, rfl, rfl, HK⟩ := hrel
                                  by_cases hkl : k < inn
                                  · obtain ⟨b7, off7, hpe, hcc⟩ := HIS1.out.at_ k hkl
                                    subst hpe
                                    have hcell := hcc k hkl
                                    have hl := HIC1.out k hkl
                                    have HNx := hid (HK.out.succ (k := k))
                                    clear hcc
                                    generalize (D.is j i).getD k ByteArray.empty = s at hcell hl HNx
                                    by_cases h10 : 1048576 < s.size
                                    · go_wp2
                                      go_ret
                                      exact ⟨⟨false, rfl, fun h => by cases h⟩, rfl⟩
                                    · by_cases h11 : 1048576 < q3 + s.size
                                      · go_wp2
                                        go_ret
                                        exact ⟨⟨false, rfl, fun h => by cases h⟩, rfl⟩
                                      · go_wp2
                                        go_round
                                        case rel => exact ⟨k + 1, q3 + s.size, by omega, by omega, by go_num, by go_num, HNx.out (by omega)⟩
                                        case measure => simp [intOf]; omega
                                  · go_wp2
                                    go_round
                                    case rel => exact ⟨i + 1, q3, by omega, by omega, by go_num, by go_num, HSg.out ⟨by rw [HTI.out]; omega, by rw [HII.out]; exact ⟨by omega, fun j hj => HK.out j (by omega)⟩⟩⟩
                                    case measure => simp [intOf]; omega
                      · go_wp2
                        go_round
                        case rel => exact ⟨j + 1, q2, by omega, by omega, by go_num, by go_num, HJ.out.succ ⟨HSL.out, by rw [HGN.out]; omega, by rw [HGN.out]; exact fun i h => HI.out i (by omega)⟩⟩
                        case measure => simp [intOf]; omega
      · go_wp2
        go_ret
        exact ⟨⟨true, rfl, fun _ => ⟨by omega, fun i hi => HJ.out i (by omega)⟩⟩, rfl⟩
end Go.Proofs.Qxb6602790a
