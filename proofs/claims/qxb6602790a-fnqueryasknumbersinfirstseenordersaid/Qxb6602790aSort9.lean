import Derived.Test.Qxb6602790aSort3
import Derived.Test.Qxb6602790aSort5
import Derived.Test.Qxb6602790aSort6
import Derived.Test.Qxb6602790aSort7
import Derived.Test.Qxb6602790aSort8
namespace Go.Proofs.Qxb6602790a
open Go.RowKit Go.Deep Go.Sort

/-- What is left of the sort: a sorted permutation of the part is one of the whole. -/
def Fin (d : Array Int) (a e : Nat) (dk : Array Int) (a1 e1 : Nat) : Prop := ∀ R, PermIn a1 e1 dk R → SortedIn ltInt a1 e1 R → PermIn a e d R ∧ SortedIn ltInt a e R
theorem Fin.perm {d dk dl : Array Int} {a e a1 e1 : Nat} (h : Fin d a e dk a1 e1) (p : PermIn a1 e1 dk dl) : Fin d a e dl a1 e1 := fun R h1 h2 => h R (permIn_trans _ _ _ _ _ p h1) h2

theorem hint_not2 (h : Hint) : h = .decreasing ∨ (hintCode h == 2) = false := by cases h <;> first | exact .inl rfl | exact .inr rfl

set_option maxHeartbeats 64000000 in
set_option maxRecDepth 100000 in
theorem pdq_w (w0 : World) (b C off cap n : Nat) (hsz : n < 4611686018427387904) : ∀ (fu a e limit : Nat) (d : Array Int) (w : World), e - a < fu → SAt w0 b C off d w → d.size = n → a ≤ e → e ≤ n → limit ≤ 1000 → Sort.Below ltInt a e d →
    Calls Try.prog 46 #[.slice (some ⟨b, off, none⟩) n cap, .int .i64 a, .int .i64 e, .int .i64 limit] w fun x w' => x = .returned (.tuple #[]) ∧ ∃ d', PermIn a e d d' ∧ SortedIn ltInt a e d' ∧ SAt w0 b C off d' w' := by
  intro fu
  induction fu with
  | zero => intro a e limit d w hf; omega
  | succ fu ih =>
    intro a e limit d w hf h hn hae he hlim hb0
    have IH := hid ih
    have HW0 := hid h
    have HS0 := hid hn
    have HB0 := hid hb0
    clear ih h hn hb0
    go_enter Try.func46, Try.ntmps46
    go_wp2
    go_loopw [1, 2, 3, 8, 9] (fun v1 v2 v3 v8 v9 wr => ∃ (a1 e1 l1 : Nat) (wb wp : Bool) (dk : Array Int), v1 = .int .i64 a1 ∧ v2 = .int .i64 e1 ∧ v3 = .int .i64 l1 ∧ v8 = .bool wb ∧ v9 = .bool wp ∧ a ≤ a1 ∧ a1 ≤ e1 ∧ e1 ≤ e ∧ l1 ≤ limit ∧
        Hid (dk.size = n) ∧ Hid (SAt w0 b C off dk wr) ∧ Hid (Sort.Below ltInt a1 e1 dk) ∧ Hid (Fin d a e dk a1 e1)) (fun v1 v2 _ _ _ _ => (intOf v2).toNat - (intOf v1).toNat)
    case atStart => exact ⟨a, e, limit, true, true, d, rfl, rfl, rfl, rfl, rfl, Nat.le_refl _, hae, Nat.le_refl _, Nat.le_refl _, HS0, HW0, HB0, fun R h1 h2 => ⟨h1, h2⟩⟩
    case round =>
      clear HW0 HS0 HB0
      obtain ⟨a1, e1, l1, wb, wp, dk, rfl, rfl, rfl, rfl, rfl, ha1, hae1, he1, hl1, HS, HW, HB, HF⟩ := hrel
      by_cases h12 : e1 - a1 ≤ 12
      · have h12z : (e1 : Int) - (a1 : Int) ≤ 12 := by omega
        have c := insertion w0 b C off cap n a1 e1 dk wr HW.out HS.out hae1 (by omega) hsz
        have q := insertionSort_holds (lt := ltInt) swo_ltInt dk a1 e1 hae1 (by have := HS.out; omega)
        have HQ := hid (HF.out _ q.1 q.2)
        have HC := hid c
        clear c q
        go_wp2_with fail
        refine HC.out.mono ?_
        rintro x w2 ⟨rfl, h2⟩
        have H2 := hid h2
        clear h2
        go_wp2
        (try simp only [Exit.inBlock, Exit.then])
        refine bodyPost_ret (results_none rfl _ _ _) rfl ?_
        exact ⟨rfl, _, HQ.out.1, HQ.out.2, H2.out⟩
      · have h12z : (12 : Int) < (e1 : Int) - (a1 : Int) := by omega
        by_cases hl0 : l1 = 0
        · have t0 : ((l1 : Int) == 0) = true := beq_iff_eq.2 (by omega)
          have c := heap w0 b C off cap n a1 e1 dk wr HW.out HS.out hae1 (by omega) hsz
          have q := heapSort_holds (lt := ltInt) swo_ltInt dk a1 e1 hae1 (by have := HS.out; omega)
          have HQ := hid (HF.out _ q.1 q.2)
          have HC := hid c
          clear c q hl0
          go_wp2_with fail
          refine HC.out.mono ?_
          rintro x w2 ⟨rfl, h2⟩
          have H2 := hid h2
          clear h2
          go_wp2
          (try simp only [Exit.inBlock, Exit.then])
          refine bodyPost_ret (results_none rfl _ _ _) rfl ?_
          exact ⟨rfl, _, HQ.out.1, HQ.out.2, H2.out⟩
        · have t0 : ((l1 : Int) == 0) = false := beq_eq_false_iff_ne.2 (by omega)
          cases wb with
          | false =>
            obtain ⟨l2, rfl⟩ : ∃ l2, l1 = l2 + 1 := ⟨l1 - 1, by omega⟩
            clear t0
            have t0 : (((l2 : Int) + 1) == 0) = false := beq_eq_false_iff_ne.2 (by omega)
            have c := breakP w0 b C off cap n a1 e1 dk wr HW.out HS.out (by omega) (by omega) hsz
            have HC := hid c
            clear c
            go_wp2_with fail
            refine HC.out.mono ?_
            clear HC
            rintro x w6 ⟨rfl, d1, q, h2⟩
            have HS3 : Hid (d1.size = n) := by show _ = _; rw [q.1]; exact HS.out
            have HB3 : Hid (Sort.Below ltInt a1 e1 d1) := Sort.Below.perm HB.out (by have := HS.out; omega) q
            have HF3 : Hid (Fin d a e d1 a1 e1) := HF.out.perm q
            clear HW HS HB HF
            have HW := hid h2
            have HS := HS3
            have HB := HB3
            have HF := HF3
            clear HS3 HB3 HF3 h2 q
            have c := choose w0 b C off cap n a1 e1 d1 w6 HW.out HS.out (by omega) (by omega) hsz
            have hpr := choosePivot_holds ltInt d1 a1 e1 (by omega)
            obtain ⟨p, hint, hx⟩ : ∃ p hint, choosePivot ltInt d1 a1 e1 = (p, hint) := ⟨_, _, rfl⟩
            rw [hx] at c hpr
            rcases hint_not2 hint with rfl | h2z
            · have c : Calls _ _ #[.slice (some ⟨b, off, none⟩) n cap, .int .i64 a1, .int .i64 e1] w6 fun x w' => x = .returned (.tuple #[.int .i64 p, .int .i64 2]) ∧ SAt w0 b C off d1 w' := c
              clear hx
              go_wp2_with fail
              refine c.mono ?_
              clear c
              rintro x w4 ⟨rfl, h2⟩
              clear HW
              have HW := hid h2
              clear h2
              obtain ⟨P, hP⟩ : ∃ P : Nat, P = e1 - 1 - (p - a1) := ⟨_, rfl⟩
              have hp1 : a1 ≤ P := by omega
              have hp2 : P < e1 := by omega
              have EP : Hid ((e1 : Int) - 1 - ((p : Int) - (a1 : Int)) = (P : Int)) := by show _ = _; omega
              clear hP
              have pz1 : a1 ≤ p := hpr.1
              have pz2 : p < e1 := hpr.2
              clear hpr
              have c := reverse w0 b C off cap n a1 e1 d1 w4 HW.out HS.out (by omega) (by omega) hsz
              have q := reverseRange_holds d1 a1 e1 (by omega) (by have := HS.out; omega)
              generalize reverseRange d1 a1 e1 = d2 at c q
              go_wp2_with fail
              refine c.mono ?_
              clear c
              rintro x wv ⟨rfl, h2⟩
              have HS3 : Hid (d2.size = n) := by show _ = _; rw [q.1]; exact HS.out
              have HB3 : Hid (Sort.Below ltInt a1 e1 d2) := Sort.Below.perm HB.out (by have := HS.out; omega) q
              have HF3 : Hid (Fin d a e d2 a1 e1) := HF.out.perm q
              clear HW HS HB HF
              have HW := hid h2
              have HS := HS3
              have HB := HB3
              have HF := HF3
              clear HS3 HB3 HF3 h2 q
              go_wp2_with fail
              (try rw [EP.out])
              clear EP
              have hs := HS.out
              obtain ⟨G, hG⟩ : ∃ G : Nat → Int, ∀ t, G t = d2[t]! := ⟨fun t => d2[t]!, fun _ => rfl⟩
              have hcw : ∀ t, t < n → wv.cell? ⟨b, off + t, none⟩ = some (.int .i32 (G t)) := fun t ht => by rw [hG]; exact HW.out.cell (by omega)
              have hfw : ∀ t, t < n → wv.frozen? ⟨b, off + t, none⟩ = false := fun t _ => HW.out.frozen t
              have HG := hid hG
              clear hG hs
              by_cases ha0 : 0 < a1
              · cases hl : ltInt (G (a1 - 1)) (G P) with
                | false =>
                  have hnl : ltInt d2[a1 - 1]! d2[P]! = false := by rw [← HG.out, ← HG.out]; exact hl
                  obtain ⟨mid, d4, hx⟩ : ∃ mid d4, partitionEqual ltInt d2 a1 e1 P = (mid, d4) := ⟨_, _, rfl⟩
                  have q := round_eq swo_ltInt (partitionEqual_holds ltInt) ha0 hp1 hp2 (by have := HS.out; omega) HB.out hnl hx
                  have HS4 : Hid (d4.size = n) := by show _ = _; rw [q.2.2.1]; exact HS.out
                  have HX := hid hx
                  obtain ⟨q1, q2, _, qb, qf⟩ := q
                  have QB := hid qb
                  have QF : Hid (Fin d a e d4 mid e1) := fun R r1 r2 => let t := qf R r1 r2; HF.out R t.1 t.2
                  clear hnl hx qb qf
                  go_wp2_with fail
                  go_big_quiet (first | (go_at_call 56; refine Calls.quiet_of_same (less _ _ _)))
                  go_wp2_with fail
                  clear hl
                  have HWn : Hid (SAt w0 b C off d2 (wv.drewN nq)) := HW.out.drewN nq
                  clear HW hcw hfw
                  generalize wv.drewN nq = wk at HWn ⊢
                  clear nq
                  have HW : Hid (SAt w0 b C off d2 wk) := HWn
                  clear HWn
                  have c := partEqual w0 b C off cap n a1 e1 P d2 wk HW.out HS.out hp1 hp2 (by omega) hsz
                  rw [HX.out] at c
                  refine c.mono ?_
                  clear c
                  rintro x w2 ⟨rfl, h2⟩
                  have H2 := hid h2
                  clear h2
                  go_wp2
                  go_roundw
                  case rel => exact ⟨mid, e1, l2, false, wp, d4, rfl, rfl, by go_num, rfl, rfl, by omega, by omega, by omega, by omega, HS4, H2, QB, QF⟩
                  case measure => simp [intOf]; omega
                | true =>
                  go_wp2_with fail
                  go_big_quiet (first | (go_at_call 56; refine Calls.quiet_of_same (less _ _ _)))
                  go_wp2_with fail
                  (try clear hl)
                  have HWn : Hid (SAt w0 b C off d2 (wv.drewN nq)) := HW.out.drewN nq
                  clear HW hcw hfw
                  generalize wv.drewN nq = wk at HWn ⊢
                  clear nq
                  have HW : Hid (SAt w0 b C off d2 wk) := HWn
                  clear HWn
                  clear HG
                  obtain ⟨mid, ap, d4, hx⟩ : ∃ mid ap d4, partition ltInt d2 a1 e1 P = (mid, ap, d4) := ⟨_, _, _, rfl⟩
                  have q := round_part swo_ltInt (partition_holds ltInt) hp1 hp2 (by have := HS.out; omega) HB.out hx
                  have c := part w0 b C off cap n a1 e1 P d2 wk HW.out HS.out hp1 hp2 (by omega) hsz
                  rw [hx] at c
                  have HS4 : Hid (d4.size = n) := by show _ = _; rw [q.2.2.1]; exact HS.out
                  obtain ⟨q1, q2, _, qa, qb, ql, qr⟩ := q
                  have QA := hid qa
                  have QB := hid qb
                  have QL := hid ql
                  have QR := hid qr
                  clear qa qb ql qr hx HW
                  refine c.mono ?_
                  clear c
                  rintro x w2 ⟨rfl, h2⟩
                  have HW := hid h2
                  clear h2
                  by_cases hlr : mid - a1 < e1 - mid
                  · have hz : (mid : Int) - (a1 : Int) < (e1 : Int) - (mid : Int) := by omega
                    go_wp2_with fail
                    refine (IH.out a1 mid l2 d4 w2 (by omega) HW.out HS4.out (by omega) (by omega) (by omega) QA.out).mono ?_
                    rintro x w3 ⟨rfl, dl, l1, l2, h3⟩
                    have q8 := QL.out dl l1 l2
                    have H3 := hid h3
                    have Q8 := hid q8.1
                    have Q9 : Hid (Fin d a e dl (mid + 1) e1) := fun R r1 r2 => let t := q8.2 R r1 r2; HF.out R t.1 t.2
                    have HS5 : Hid (dl.size = n) := by show _ = _; rw [l1.1]; exact HS4.out
                    clear l1 l2 q8 h3
                    go_wp2
                    go_roundw
                    case rel => exact ⟨mid + 1, e1, l2, _, ap, dl, by go_num, rfl, by go_num, rfl, rfl, by omega, by omega, by omega, by omega, HS5, H3, Q8, Q9⟩
                    case measure => simp [intOf]; omega
                  · have hz : (e1 : Int) - (mid : Int) ≤ (mid : Int) - (a1 : Int) := by omega
                    go_wp2_with fail
                    have KK := IH.out (mid + 1) e1 l2 d4 w2 (by omega) HW.out HS4.out (by omega) (by omega) (by omega) QB.out
                    rw [show ((mid + 1 : Nat) : Int) = (mid : Int) + 1 by omega] at KK
                    refine KK.mono ?_
                    clear KK
                    rintro x w3 ⟨rfl, dl, l1, l2, h3⟩
                    have q8 := QR.out dl l1 l2
                    have H3 := hid h3
                    have Q8 := hid q8.1
                    have Q9 : Hid (Fin d a e dl a1 mid) := fun R r1 r2 => let t := q8.2 R r1 r2; HF.out R t.1 t.2
                    have HS5 : Hid (dl.size = n) := by show _ = _; rw [l1.1]; exact HS4.out
                    clear l1 l2 q8 h3
                    go_wp2
                    go_roundw
                    case rel => exact ⟨a1, mid, l2, _, ap, dl, rfl, rfl, by go_num, rfl, rfl, by omega, by omega, by omega, by omega, HS5, H3, Q8, Q9⟩
                    case measure => simp [intOf]; omega
              · have ha0z : decide (0 < (a1 : Int)) = false := decide_eq_false (by omega)
                go_wp2_with fail
                go_big_quiet (first | (go_at_call 56; refine Calls.quiet_of_same (less _ _ _)))
                go_wp2_with fail
                (try clear hl)
                have HWn : Hid (SAt w0 b C off d2 (wv.drewN nq)) := HW.out.drewN nq
                clear HW hcw hfw
                generalize wv.drewN nq = wk at HWn ⊢
                clear nq
                have HW : Hid (SAt w0 b C off d2 wk) := HWn
                clear HWn
                clear HG
                obtain ⟨mid, ap, d4, hx⟩ : ∃ mid ap d4, partition ltInt d2 a1 e1 P = (mid, ap, d4) := ⟨_, _, _, rfl⟩
                have q := round_part swo_ltInt (partition_holds ltInt) hp1 hp2 (by have := HS.out; omega) HB.out hx
                have c := part w0 b C off cap n a1 e1 P d2 wk HW.out HS.out hp1 hp2 (by omega) hsz
                rw [hx] at c
                have HS4 : Hid (d4.size = n) := by show _ = _; rw [q.2.2.1]; exact HS.out
                obtain ⟨q1, q2, _, qa, qb, ql, qr⟩ := q
                have QA := hid qa
                have QB := hid qb
                have QL := hid ql
                have QR := hid qr
                clear qa qb ql qr hx HW
                refine c.mono ?_
                clear c
                rintro x w2 ⟨rfl, h2⟩
                have HW := hid h2
                clear h2
                by_cases hlr : mid - a1 < e1 - mid
                · have hz : (mid : Int) - (a1 : Int) < (e1 : Int) - (mid : Int) := by omega
                  go_wp2_with fail
                  refine (IH.out a1 mid l2 d4 w2 (by omega) HW.out HS4.out (by omega) (by omega) (by omega) QA.out).mono ?_
                  rintro x w3 ⟨rfl, dl, l1, l2, h3⟩
                  have q8 := QL.out dl l1 l2
                  have H3 := hid h3
                  have Q8 := hid q8.1
                  have Q9 : Hid (Fin d a e dl (mid + 1) e1) := fun R r1 r2 => let t := q8.2 R r1 r2; HF.out R t.1 t.2
                  have HS5 : Hid (dl.size = n) := by show _ = _; rw [l1.1]; exact HS4.out
                  clear l1 l2 q8 h3
                  go_wp2
                  go_roundw
                  case rel => exact ⟨mid + 1, e1, l2, _, ap, dl, by go_num, rfl, by go_num, rfl, rfl, by omega, by omega, by omega, by omega, HS5, H3, Q8, Q9⟩
                  case measure => simp [intOf]; omega
                · have hz : (e1 : Int) - (mid : Int) ≤ (mid : Int) - (a1 : Int) := by omega
                  go_wp2_with fail
                  have KK := IH.out (mid + 1) e1 l2 d4 w2 (by omega) HW.out HS4.out (by omega) (by omega) (by omega) QB.out
                  rw [show ((mid + 1 : Nat) : Int) = (mid : Int) + 1 by omega] at KK
                  refine KK.mono ?_
                  clear KK
                  rintro x w3 ⟨rfl, dl, l1, l2, h3⟩
                  have q8 := QR.out dl l1 l2
                  have H3 := hid h3
                  have Q8 := hid q8.1
                  have Q9 : Hid (Fin d a e dl a1 mid) := fun R r1 r2 => let t := q8.2 R r1 r2; HF.out R t.1 t.2
                  have HS5 : Hid (dl.size = n) := by show _ = _; rw [l1.1]; exact HS4.out
                  clear l1 l2 q8 h3
                  go_wp2
                  go_roundw
                  case rel => exact ⟨a1, mid, l2, _, ap, dl, rfl, rfl, by go_num, rfl, rfl, by omega, by omega, by omega, by omega, HS5, H3, Q8, Q9⟩
                  case measure => simp [intOf]; omega
            · have c : Calls _ _ #[.slice (some ⟨b, off, none⟩) n cap, .int .i64 a1, .int .i64 e1] w6 fun x w' => x = .returned (.tuple #[.int .i64 p, .int .i64 (hintCode hint)]) ∧ SAt w0 b C off d1 w' := c
              obtain ⟨P, rfl⟩ : ∃ P, P = p := ⟨_, rfl⟩
              generalize hintCode hint = hc at c h2z
              have hp1 : a1 ≤ P := hpr.1
              have hp2 : P < e1 := hpr.2
              clear hpr hx
              go_wp2_with fail
              refine c.mono ?_
              clear c
              rintro x w4 ⟨rfl, h2⟩
              clear HW
              have HW := hid h2
              clear h2
              go_wp2_with fail
              have hs := HS.out
              obtain ⟨G, hG⟩ : ∃ G : Nat → Int, ∀ t, G t = d1[t]! := ⟨fun t => d1[t]!, fun _ => rfl⟩
              have hcw : ∀ t, t < n → w4.cell? ⟨b, off + t, none⟩ = some (.int .i32 (G t)) := fun t ht => by rw [hG]; exact HW.out.cell (by omega)
              have hfw : ∀ t, t < n → w4.frozen? ⟨b, off + t, none⟩ = false := fun t _ => HW.out.frozen t
              have HG := hid hG
              clear hG hs
              by_cases ha0 : 0 < a1
              · cases hl : ltInt (G (a1 - 1)) (G P) with
                | false =>
                  have hnl : ltInt d1[a1 - 1]! d1[P]! = false := by rw [← HG.out, ← HG.out]; exact hl
                  obtain ⟨mid, d4, hx⟩ : ∃ mid d4, partitionEqual ltInt d1 a1 e1 P = (mid, d4) := ⟨_, _, rfl⟩
                  have q := round_eq swo_ltInt (partitionEqual_holds ltInt) ha0 hp1 hp2 (by have := HS.out; omega) HB.out hnl hx
                  have HS4 : Hid (d4.size = n) := by show _ = _; rw [q.2.2.1]; exact HS.out
                  have HX := hid hx
                  obtain ⟨q1, q2, _, qb, qf⟩ := q
                  have QB := hid qb
                  have QF : Hid (Fin d a e d4 mid e1) := fun R r1 r2 => let t := qf R r1 r2; HF.out R t.1 t.2
                  clear hnl hx qb qf
                  go_wp2_with fail
                  go_big_quiet (first | (go_at_call 56; refine Calls.quiet_of_same (less _ _ _)))
                  go_wp2_with fail
                  clear hl
                  have HWn : Hid (SAt w0 b C off d1 (w4.drewN nq)) := HW.out.drewN nq
                  clear HW hcw hfw
                  generalize w4.drewN nq = wk at HWn ⊢
                  clear nq
                  have HW : Hid (SAt w0 b C off d1 wk) := HWn
                  clear HWn
                  have c := partEqual w0 b C off cap n a1 e1 P d1 wk HW.out HS.out hp1 hp2 (by omega) hsz
                  rw [HX.out] at c
                  refine c.mono ?_
                  clear c
                  rintro x w2 ⟨rfl, h2⟩
                  have H2 := hid h2
                  clear h2
                  go_wp2
                  go_roundw
                  case rel => exact ⟨mid, e1, l2, false, wp, d4, rfl, rfl, by go_num, rfl, rfl, by omega, by omega, by omega, by omega, HS4, H2, QB, QF⟩
                  case measure => simp [intOf]; omega
                | true =>
                  go_wp2_with fail
                  go_big_quiet (first | (go_at_call 56; refine Calls.quiet_of_same (less _ _ _)))
                  go_wp2_with fail
                  (try clear hl)
                  have HWn : Hid (SAt w0 b C off d1 (w4.drewN nq)) := HW.out.drewN nq
                  clear HW hcw hfw
                  generalize w4.drewN nq = wk at HWn ⊢
                  clear nq
                  have HW : Hid (SAt w0 b C off d1 wk) := HWn
                  clear HWn
                  clear HG
                  obtain ⟨mid, ap, d4, hx⟩ : ∃ mid ap d4, partition ltInt d1 a1 e1 P = (mid, ap, d4) := ⟨_, _, _, rfl⟩
                  have q := round_part swo_ltInt (partition_holds ltInt) hp1 hp2 (by have := HS.out; omega) HB.out hx
                  have c := part w0 b C off cap n a1 e1 P d1 wk HW.out HS.out hp1 hp2 (by omega) hsz
                  rw [hx] at c
                  have HS4 : Hid (d4.size = n) := by show _ = _; rw [q.2.2.1]; exact HS.out
                  obtain ⟨q1, q2, _, qa, qb, ql, qr⟩ := q
                  have QA := hid qa
                  have QB := hid qb
                  have QL := hid ql
                  have QR := hid qr
                  clear qa qb ql qr hx HW
                  refine c.mono ?_
                  clear c
                  rintro x w2 ⟨rfl, h2⟩
                  have HW := hid h2
                  clear h2
                  by_cases hlr : mid - a1 < e1 - mid
                  · have hz : (mid : Int) - (a1 : Int) < (e1 : Int) - (mid : Int) := by omega
                    go_wp2_with fail
                    refine (IH.out a1 mid l2 d4 w2 (by omega) HW.out HS4.out (by omega) (by omega) (by omega) QA.out).mono ?_
                    rintro x w3 ⟨rfl, dl, l1, l2, h3⟩
                    have q8 := QL.out dl l1 l2
                    have H3 := hid h3
                    have Q8 := hid q8.1
                    have Q9 : Hid (Fin d a e dl (mid + 1) e1) := fun R r1 r2 => let t := q8.2 R r1 r2; HF.out R t.1 t.2
                    have HS5 : Hid (dl.size = n) := by show _ = _; rw [l1.1]; exact HS4.out
                    clear l1 l2 q8 h3
                    go_wp2
                    go_roundw
                    case rel => exact ⟨mid + 1, e1, l2, _, ap, dl, by go_num, rfl, by go_num, rfl, rfl, by omega, by omega, by omega, by omega, HS5, H3, Q8, Q9⟩
                    case measure => simp [intOf]; omega
                  · have hz : (e1 : Int) - (mid : Int) ≤ (mid : Int) - (a1 : Int) := by omega
                    go_wp2_with fail
                    have KK := IH.out (mid + 1) e1 l2 d4 w2 (by omega) HW.out HS4.out (by omega) (by omega) (by omega) QB.out
                    rw [show ((mid + 1 : Nat) : Int) = (mid : Int) + 1 by omega] at KK
                    refine KK.mono ?_
                    clear KK
                    rintro x w3 ⟨rfl, dl, l1, l2, h3⟩
                    have q8 := QR.out dl l1 l2
                    have H3 := hid h3
                    have Q8 := hid q8.1
                    have Q9 : Hid (Fin d a e dl a1 mid) := fun R r1 r2 => let t := q8.2 R r1 r2; HF.out R t.1 t.2
                    have HS5 : Hid (dl.size = n) := by show _ = _; rw [l1.1]; exact HS4.out
                    clear l1 l2 q8 h3
                    go_wp2
                    go_roundw
                    case rel => exact ⟨a1, mid, l2, _, ap, dl, rfl, rfl, by go_num, rfl, rfl, by omega, by omega, by omega, by omega, HS5, H3, Q8, Q9⟩
                    case measure => simp [intOf]; omega
              · have ha0z : decide (0 < (a1 : Int)) = false := decide_eq_false (by omega)
                go_wp2_with fail
                go_big_quiet (first | (go_at_call 56; refine Calls.quiet_of_same (less _ _ _)))
                go_wp2_with fail
                (try clear hl)
                have HWn : Hid (SAt w0 b C off d1 (w4.drewN nq)) := HW.out.drewN nq
                clear HW hcw hfw
                generalize w4.drewN nq = wk at HWn ⊢
                clear nq
                have HW : Hid (SAt w0 b C off d1 wk) := HWn
                clear HWn
                clear HG
                obtain ⟨mid, ap, d4, hx⟩ : ∃ mid ap d4, partition ltInt d1 a1 e1 P = (mid, ap, d4) := ⟨_, _, _, rfl⟩
                have q := round_part swo_ltInt (partition_holds ltInt) hp1 hp2 (by have := HS.out; omega) HB.out hx
                have c := part w0 b C off cap n a1 e1 P d1 wk HW.out HS.out hp1 hp2 (by omega) hsz
                rw [hx] at c
                have HS4 : Hid (d4.size = n) := by show _ = _; rw [q.2.2.1]; exact HS.out
                obtain ⟨q1, q2, _, qa, qb, ql, qr⟩ := q
                have QA := hid qa
                have QB := hid qb
                have QL := hid ql
                have QR := hid qr
                clear qa qb ql qr hx HW
                refine c.mono ?_
                clear c
                rintro x w2 ⟨rfl, h2⟩
                have HW := hid h2
                clear h2
                by_cases hlr : mid - a1 < e1 - mid
                · have hz : (mid : Int) - (a1 : Int) < (e1 : Int) - (mid : Int) := by omega
                  go_wp2_with fail
                  refine (IH.out a1 mid l2 d4 w2 (by omega) HW.out HS4.out (by omega) (by omega) (by omega) QA.out).mono ?_
                  rintro x w3 ⟨rfl, dl, l1, l2, h3⟩
                  have q8 := QL.out dl l1 l2
                  have H3 := hid h3
                  have Q8 := hid q8.1
                  have Q9 : Hid (Fin d a e dl (mid + 1) e1) := fun R r1 r2 => let t := q8.2 R r1 r2; HF.out R t.1 t.2
                  have HS5 : Hid (dl.size = n) := by show _ = _; rw [l1.1]; exact HS4.out
                  clear l1 l2 q8 h3
                  go_wp2
                  go_roundw
                  case rel => exact ⟨mid + 1, e1, l2, _, ap, dl, by go_num, rfl, by go_num, rfl, rfl, by omega, by omega, by omega, by omega, HS5, H3, Q8, Q9⟩
                  case measure => simp [intOf]; omega
                · have hz : (e1 : Int) - (mid : Int) ≤ (mid : Int) - (a1 : Int) := by omega
                  go_wp2_with fail
                  have KK := IH.out (mid + 1) e1 l2 d4 w2 (by omega) HW.out HS4.out (by omega) (by omega) (by omega) QB.out
                  rw [show ((mid + 1 : Nat) : Int) = (mid : Int) + 1 by omega] at KK
                  refine KK.mono ?_
                  clear KK
                  rintro x w3 ⟨rfl, dl, l1, l2, h3⟩
                  have q8 := QR.out dl l1 l2
                  have H3 := hid h3
                  have Q8 := hid q8.1
                  have Q9 : Hid (Fin d a e dl a1 mid) := fun R r1 r2 => let t := q8.2 R r1 r2; HF.out R t.1 t.2
                  have HS5 : Hid (dl.size = n) := by show _ = _; rw [l1.1]; exact HS4.out
                  clear l1 l2 q8 h3
                  go_wp2
                  go_roundw
                  case rel => exact ⟨a1, mid, l2, _, ap, dl, rfl, rfl, by go_num, rfl, rfl, by omega, by omega, by omega, by omega, HS5, H3, Q8, Q9⟩
                  case measure => simp [intOf]; omega
          | true =>
            cases wp with
            | false =>
              have c := choose w0 b C off cap n a1 e1 dk wr HW.out HS.out (by omega) (by omega) hsz
              have hpr := choosePivot_holds ltInt dk a1 e1 (by omega)
              obtain ⟨p, hint, hx⟩ : ∃ p hint, choosePivot ltInt dk a1 e1 = (p, hint) := ⟨_, _, rfl⟩
              rw [hx] at c hpr
              rcases hint_not2 hint with rfl | h2z
              · have c : Calls _ _ #[.slice (some ⟨b, off, none⟩) n cap, .int .i64 a1, .int .i64 e1] wr fun x w' => x = .returned (.tuple #[.int .i64 p, .int .i64 2]) ∧ SAt w0 b C off dk w' := c
                clear hx
                go_wp2_with fail
                refine c.mono ?_
                clear c
                rintro x w4 ⟨rfl, h2⟩
                clear HW
                have HW := hid h2
                clear h2
                obtain ⟨P, hP⟩ : ∃ P : Nat, P = e1 - 1 - (p - a1) := ⟨_, rfl⟩
                have hp1 : a1 ≤ P := by omega
                have hp2 : P < e1 := by omega
                have EP : Hid ((e1 : Int) - 1 - ((p : Int) - (a1 : Int)) = (P : Int)) := by show _ = _; omega
                clear hP
                have pz1 : a1 ≤ p := hpr.1
                have pz2 : p < e1 := hpr.2
                clear hpr
                have c := reverse w0 b C off cap n a1 e1 dk w4 HW.out HS.out (by omega) (by omega) hsz
                have q := reverseRange_holds dk a1 e1 (by omega) (by have := HS.out; omega)
                generalize reverseRange dk a1 e1 = d2 at c q
                go_wp2_with fail
                refine c.mono ?_
                clear c
                rintro x wv ⟨rfl, h2⟩
                have HS3 : Hid (d2.size = n) := by show _ = _; rw [q.1]; exact HS.out
                have HB3 : Hid (Sort.Below ltInt a1 e1 d2) := Sort.Below.perm HB.out (by have := HS.out; omega) q
                have HF3 : Hid (Fin d a e d2 a1 e1) := HF.out.perm q
                clear HW HS HB HF
                have HW := hid h2
                have HS := HS3
                have HB := HB3
                have HF := HF3
                clear HS3 HB3 HF3 h2 q
                go_wp2_with fail
                (try rw [EP.out])
                clear EP
                have hs := HS.out
                obtain ⟨G, hG⟩ : ∃ G : Nat → Int, ∀ t, G t = d2[t]! := ⟨fun t => d2[t]!, fun _ => rfl⟩
                have hcw : ∀ t, t < n → wv.cell? ⟨b, off + t, none⟩ = some (.int .i32 (G t)) := fun t ht => by rw [hG]; exact HW.out.cell (by omega)
                have hfw : ∀ t, t < n → wv.frozen? ⟨b, off + t, none⟩ = false := fun t _ => HW.out.frozen t
                have HG := hid hG
                clear hG hs
                by_cases ha0 : 0 < a1
                · cases hl : ltInt (G (a1 - 1)) (G P) with
                  | false =>
                    have hnl : ltInt d2[a1 - 1]! d2[P]! = false := by rw [← HG.out, ← HG.out]; exact hl
                    obtain ⟨mid, d4, hx⟩ : ∃ mid d4, partitionEqual ltInt d2 a1 e1 P = (mid, d4) := ⟨_, _, rfl⟩
                    have q := round_eq swo_ltInt (partitionEqual_holds ltInt) ha0 hp1 hp2 (by have := HS.out; omega) HB.out hnl hx
                    have HS4 : Hid (d4.size = n) := by show _ = _; rw [q.2.2.1]; exact HS.out
                    have HX := hid hx
                    obtain ⟨q1, q2, _, qb, qf⟩ := q
                    have QB := hid qb
                    have QF : Hid (Fin d a e d4 mid e1) := fun R r1 r2 => let t := qf R r1 r2; HF.out R t.1 t.2
                    clear hnl hx qb qf
                    go_wp2_with fail
                    go_big_quiet (first | (go_at_call 56; refine Calls.quiet_of_same (less _ _ _)))
                    go_wp2_with fail
                    clear hl
                    have HWn : Hid (SAt w0 b C off d2 (wv.drewN nq)) := HW.out.drewN nq
                    clear HW hcw hfw
                    generalize wv.drewN nq = wk at HWn ⊢
                    clear nq
                    have HW : Hid (SAt w0 b C off d2 wk) := HWn
                    clear HWn
                    have c := partEqual w0 b C off cap n a1 e1 P d2 wk HW.out HS.out hp1 hp2 (by omega) hsz
                    rw [HX.out] at c
                    refine c.mono ?_
                    clear c
                    rintro x w2 ⟨rfl, h2⟩
                    have H2 := hid h2
                    clear h2
                    go_wp2
                    go_roundw
                    case rel => exact ⟨mid, e1, l1, true, false, d4, rfl, rfl, by go_num, rfl, rfl, by omega, by omega, by omega, by omega, HS4, H2, QB, QF⟩
                    case measure => simp [intOf]; omega
                  | true =>
                    go_wp2_with fail
                    go_big_quiet (first | (go_at_call 56; refine Calls.quiet_of_same (less _ _ _)))
                    go_wp2_with fail
                    (try clear hl)
                    have HWn : Hid (SAt w0 b C off d2 (wv.drewN nq)) := HW.out.drewN nq
                    clear HW hcw hfw
                    generalize wv.drewN nq = wk at HWn ⊢
                    clear nq
                    have HW : Hid (SAt w0 b C off d2 wk) := HWn
                    clear HWn
                    clear HG
                    obtain ⟨mid, ap, d4, hx⟩ : ∃ mid ap d4, partition ltInt d2 a1 e1 P = (mid, ap, d4) := ⟨_, _, _, rfl⟩
                    have q := round_part swo_ltInt (partition_holds ltInt) hp1 hp2 (by have := HS.out; omega) HB.out hx
                    have c := part w0 b C off cap n a1 e1 P d2 wk HW.out HS.out hp1 hp2 (by omega) hsz
                    rw [hx] at c
                    have HS4 : Hid (d4.size = n) := by show _ = _; rw [q.2.2.1]; exact HS.out
                    obtain ⟨q1, q2, _, qa, qb, ql, qr⟩ := q
                    have QA := hid qa
                    have QB := hid qb
                    have QL := hid ql
                    have QR := hid qr
                    clear qa qb ql qr hx HW
                    refine c.mono ?_
                    clear c
                    rintro x w2 ⟨rfl, h2⟩
                    have HW := hid h2
                    clear h2
                    by_cases hlr : mid - a1 < e1 - mid
                    · have hz : (mid : Int) - (a1 : Int) < (e1 : Int) - (mid : Int) := by omega
                      go_wp2_with fail
                      refine (IH.out a1 mid l1 d4 w2 (by omega) HW.out HS4.out (by omega) (by omega) (by omega) QA.out).mono ?_
                      rintro x w3 ⟨rfl, dl, l1, l2, h3⟩
                      have q8 := QL.out dl l1 l2
                      have H3 := hid h3
                      have Q8 := hid q8.1
                      have Q9 : Hid (Fin d a e dl (mid + 1) e1) := fun R r1 r2 => let t := q8.2 R r1 r2; HF.out R t.1 t.2
                      have HS5 : Hid (dl.size = n) := by show _ = _; rw [l1.1]; exact HS4.out
                      clear l1 l2 q8 h3
                      go_wp2
                      go_roundw
                      case rel => exact ⟨mid + 1, e1, l1, _, ap, dl, by go_num, rfl, by go_num, rfl, rfl, by omega, by omega, by omega, by omega, HS5, H3, Q8, Q9⟩
                      case measure => simp [intOf]; omega
                    · have hz : (e1 : Int) - (mid : Int) ≤ (mid : Int) - (a1 : Int) := by omega
                      go_wp2_with fail
                      have KK := IH.out (mid + 1) e1 l1 d4 w2 (by omega) HW.out HS4.out (by omega) (by omega) (by omega) QB.out
                      rw [show ((mid + 1 : Nat) : Int) = (mid : Int) + 1 by omega] at KK
                      refine KK.mono ?_
                      clear KK
                      rintro x w3 ⟨rfl, dl, l1, l2, h3⟩
                      have q8 := QR.out dl l1 l2
                      have H3 := hid h3
                      have Q8 := hid q8.1
                      have Q9 : Hid (Fin d a e dl a1 mid) := fun R r1 r2 => let t := q8.2 R r1 r2; HF.out R t.1 t.2
                      have HS5 : Hid (dl.size = n) := by show _ = _; rw [l1.1]; exact HS4.out
                      clear l1 l2 q8 h3
                      go_wp2
                      go_roundw
                      case rel => exact ⟨a1, mid, l1, _, ap, dl, rfl, rfl, by go_num, rfl, rfl, by omega, by omega, by omega, by omega, HS5, H3, Q8, Q9⟩
                      case measure => simp [intOf]; omega
                · have ha0z : decide (0 < (a1 : Int)) = false := decide_eq_false (by omega)
                  go_wp2_with fail
                  go_big_quiet (first | (go_at_call 56; refine Calls.quiet_of_same (less _ _ _)))
                  go_wp2_with fail
                  (try clear hl)
                  have HWn : Hid (SAt w0 b C off d2 (wv.drewN nq)) := HW.out.drewN nq
                  clear HW hcw hfw
                  generalize wv.drewN nq = wk at HWn ⊢
                  clear nq
                  have HW : Hid (SAt w0 b C off d2 wk) := HWn
                  clear HWn
                  clear HG
                  obtain ⟨mid, ap, d4, hx⟩ : ∃ mid ap d4, partition ltInt d2 a1 e1 P = (mid, ap, d4) := ⟨_, _, _, rfl⟩
                  have q := round_part swo_ltInt (partition_holds ltInt) hp1 hp2 (by have := HS.out; omega) HB.out hx
                  have c := part w0 b C off cap n a1 e1 P d2 wk HW.out HS.out hp1 hp2 (by omega) hsz
                  rw [hx] at c
                  have HS4 : Hid (d4.size = n) := by show _ = _; rw [q.2.2.1]; exact HS.out
                  obtain ⟨q1, q2, _, qa, qb, ql, qr⟩ := q
                  have QA := hid qa
                  have QB := hid qb
                  have QL := hid ql
                  have QR := hid qr
                  clear qa qb ql qr hx HW
                  refine c.mono ?_
                  clear c
                  rintro x w2 ⟨rfl, h2⟩
                  have HW := hid h2
                  clear h2
                  by_cases hlr : mid - a1 < e1 - mid
                  · have hz : (mid : Int) - (a1 : Int) < (e1 : Int) - (mid : Int) := by omega
                    go_wp2_with fail
                    refine (IH.out a1 mid l1 d4 w2 (by omega) HW.out HS4.out (by omega) (by omega) (by omega) QA.out).mono ?_
                    rintro x w3 ⟨rfl, dl, l1, l2, h3⟩
                    have q8 := QL.out dl l1 l2
                    have H3 := hid h3
                    have Q8 := hid q8.1
                    have Q9 : Hid (Fin d a e dl (mid + 1) e1) := fun R r1 r2 => let t := q8.2 R r1 r2; HF.out R t.1 t.2
                    have HS5 : Hid (dl.size = n) := by show _ = _; rw [l1.1]; exact HS4.out
                    clear l1 l2 q8 h3
                    go_wp2
                    go_roundw
                    case rel => exact ⟨mid + 1, e1, l1, _, ap, dl, by go_num, rfl, by go_num, rfl, rfl, by omega, by omega, by omega, by omega, HS5, H3, Q8, Q9⟩
                    case measure => simp [intOf]; omega
                  · have hz : (e1 : Int) - (mid : Int) ≤ (mid : Int) - (a1 : Int) := by omega
                    go_wp2_with fail
                    have KK := IH.out (mid + 1) e1 l1 d4 w2 (by omega) HW.out HS4.out (by omega) (by omega) (by omega) QB.out
                    rw [show ((mid + 1 : Nat) : Int) = (mid : Int) + 1 by omega] at KK
                    refine KK.mono ?_
                    clear KK
                    rintro x w3 ⟨rfl, dl, l1, l2, h3⟩
                    have q8 := QR.out dl l1 l2
                    have H3 := hid h3
                    have Q8 := hid q8.1
                    have Q9 : Hid (Fin d a e dl a1 mid) := fun R r1 r2 => let t := q8.2 R r1 r2; HF.out R t.1 t.2
                    have HS5 : Hid (dl.size = n) := by show _ = _; rw [l1.1]; exact HS4.out
                    clear l1 l2 q8 h3
                    go_wp2
                    go_roundw
                    case rel => exact ⟨a1, mid, l1, _, ap, dl, rfl, rfl, by go_num, rfl, rfl, by omega, by omega, by omega, by omega, HS5, H3, Q8, Q9⟩
                    case measure => simp [intOf]; omega
              · have c : Calls _ _ #[.slice (some ⟨b, off, none⟩) n cap, .int .i64 a1, .int .i64 e1] wr fun x w' => x = .returned (.tuple #[.int .i64 p, .int .i64 (hintCode hint)]) ∧ SAt w0 b C off dk w' := c
                obtain ⟨P, rfl⟩ : ∃ P, P = p := ⟨_, rfl⟩
                generalize hintCode hint = hc at c h2z
                have hp1 : a1 ≤ P := hpr.1
                have hp2 : P < e1 := hpr.2
                clear hpr hx
                go_wp2_with fail
                refine c.mono ?_
                clear c
                rintro x w4 ⟨rfl, h2⟩
                clear HW
                have HW := hid h2
                clear h2
                go_wp2_with fail
                have hs := HS.out
                obtain ⟨G, hG⟩ : ∃ G : Nat → Int, ∀ t, G t = dk[t]! := ⟨fun t => dk[t]!, fun _ => rfl⟩
                have hcw : ∀ t, t < n → w4.cell? ⟨b, off + t, none⟩ = some (.int .i32 (G t)) := fun t ht => by rw [hG]; exact HW.out.cell (by omega)
                have hfw : ∀ t, t < n → w4.frozen? ⟨b, off + t, none⟩ = false := fun t _ => HW.out.frozen t
                have HG := hid hG
                clear hG hs
                by_cases ha0 : 0 < a1
                · cases hl : ltInt (G (a1 - 1)) (G P) with
                  | false =>
                    have hnl : ltInt dk[a1 - 1]! dk[P]! = false := by rw [← HG.out, ← HG.out]; exact hl
                    obtain ⟨mid, d4, hx⟩ : ∃ mid d4, partitionEqual ltInt dk a1 e1 P = (mid, d4) := ⟨_, _, rfl⟩
                    have q := round_eq swo_ltInt (partitionEqual_holds ltInt) ha0 hp1 hp2 (by have := HS.out; omega) HB.out hnl hx
                    have HS4 : Hid (d4.size = n) := by show _ = _; rw [q.2.2.1]; exact HS.out
                    have HX := hid hx
                    obtain ⟨q1, q2, _, qb, qf⟩ := q
                    have QB := hid qb
                    have QF : Hid (Fin d a e d4 mid e1) := fun R r1 r2 => let t := qf R r1 r2; HF.out R t.1 t.2
                    clear hnl hx qb qf
                    go_wp2_with fail
                    go_big_quiet (first | (go_at_call 56; refine Calls.quiet_of_same (less _ _ _)))
                    go_wp2_with fail
                    clear hl
                    have HWn : Hid (SAt w0 b C off dk (w4.drewN nq)) := HW.out.drewN nq
                    clear HW hcw hfw
                    generalize w4.drewN nq = wk at HWn ⊢
                    clear nq
                    have HW : Hid (SAt w0 b C off dk wk) := HWn
                    clear HWn
                    have c := partEqual w0 b C off cap n a1 e1 P dk wk HW.out HS.out hp1 hp2 (by omega) hsz
                    rw [HX.out] at c
                    refine c.mono ?_
                    clear c
                    rintro x w2 ⟨rfl, h2⟩
                    have H2 := hid h2
                    clear h2
                    go_wp2
                    go_roundw
                    case rel => exact ⟨mid, e1, l1, true, false, d4, rfl, rfl, by go_num, rfl, rfl, by omega, by omega, by omega, by omega, HS4, H2, QB, QF⟩
                    case measure => simp [intOf]; omega
                  | true =>
                    go_wp2_with fail
                    go_big_quiet (first | (go_at_call 56; refine Calls.quiet_of_same (less _ _ _)))
                    go_wp2_with fail
                    (try clear hl)
                    have HWn : Hid (SAt w0 b C off dk (w4.drewN nq)) := HW.out.drewN nq
                    clear HW hcw hfw
                    generalize w4.drewN nq = wk at HWn ⊢
                    clear nq
                    have HW : Hid (SAt w0 b C off dk wk) := HWn
                    clear HWn
                    clear HG
                    obtain ⟨mid, ap, d4, hx⟩ : ∃ mid ap d4, partition ltInt dk a1 e1 P = (mid, ap, d4) := ⟨_, _, _, rfl⟩
                    have q := round_part swo_ltInt (partition_holds ltInt) hp1 hp2 (by have := HS.out; omega) HB.out hx
                    have c := part w0 b C off cap n a1 e1 P dk wk HW.out HS.out hp1 hp2 (by omega) hsz
                    rw [hx] at c
                    have HS4 : Hid (d4.size = n) := by show _ = _; rw [q.2.2.1]; exact HS.out
                    obtain ⟨q1, q2, _, qa, qb, ql, qr⟩ := q
                    have QA := hid qa
                    have QB := hid qb
                    have QL := hid ql
                    have QR := hid qr
                    clear qa qb ql qr hx HW
                    refine c.mono ?_
                    clear c
                    rintro x w2 ⟨rfl, h2⟩
                    have HW := hid h2
                    clear h2
                    by_cases hlr : mid - a1 < e1 - mid
                    · have hz : (mid : Int) - (a1 : Int) < (e1 : Int) - (mid : Int) := by omega
                      go_wp2_with fail
                      refine (IH.out a1 mid l1 d4 w2 (by omega) HW.out HS4.out (by omega) (by omega) (by omega) QA.out).mono ?_
                      rintro x w3 ⟨rfl, dl, l1, l2, h3⟩
                      have q8 := QL.out dl l1 l2
                      have H3 := hid h3
                      have Q8 := hid q8.1
                      have Q9 : Hid (Fin d a e dl (mid + 1) e1) := fun R r1 r2 => let t := q8.2 R r1 r2; HF.out R t.1 t.2
                      have HS5 : Hid (dl.size = n) := by show _ = _; rw [l1.1]; exact HS4.out
                      clear l1 l2 q8 h3
                      go_wp2
                      go_roundw
                      case rel => exact ⟨mid + 1, e1, l1, _, ap, dl, by go_num, rfl, by go_num, rfl, rfl, by omega, by omega, by omega, by omega, HS5, H3, Q8, Q9⟩
                      case measure => simp [intOf]; omega
                    · have hz : (e1 : Int) - (mid : Int) ≤ (mid : Int) - (a1 : Int) := by omega
                      go_wp2_with fail
                      have KK := IH.out (mid + 1) e1 l1 d4 w2 (by omega) HW.out HS4.out (by omega) (by omega) (by omega) QB.out
                      rw [show ((mid + 1 : Nat) : Int) = (mid : Int) + 1 by omega] at KK
                      refine KK.mono ?_
                      clear KK
                      rintro x w3 ⟨rfl, dl, l1, l2, h3⟩
                      have q8 := QR.out dl l1 l2
                      have H3 := hid h3
                      have Q8 := hid q8.1
                      have Q9 : Hid (Fin d a e dl a1 mid) := fun R r1 r2 => let t := q8.2 R r1 r2; HF.out R t.1 t.2
                      have HS5 : Hid (dl.size = n) := by show _ = _; rw [l1.1]; exact HS4.out
                      clear l1 l2 q8 h3
                      go_wp2
                      go_roundw
                      case rel => exact ⟨a1, mid, l1, _, ap, dl, rfl, rfl, by go_num, rfl, rfl, by omega, by omega, by omega, by omega, HS5, H3, Q8, Q9⟩
                      case measure => simp [intOf]; omega
                · have ha0z : decide (0 < (a1 : Int)) = false := decide_eq_false (by omega)
                  go_wp2_with fail
                  go_big_quiet (first | (go_at_call 56; refine Calls.quiet_of_same (less _ _ _)))
                  go_wp2_with fail
                  (try clear hl)
                  have HWn : Hid (SAt w0 b C off dk (w4.drewN nq)) := HW.out.drewN nq
                  clear HW hcw hfw
                  generalize w4.drewN nq = wk at HWn ⊢
                  clear nq
                  have HW : Hid (SAt w0 b C off dk wk) := HWn
                  clear HWn
                  clear HG
                  obtain ⟨mid, ap, d4, hx⟩ : ∃ mid ap d4, partition ltInt dk a1 e1 P = (mid, ap, d4) := ⟨_, _, _, rfl⟩
                  have q := round_part swo_ltInt (partition_holds ltInt) hp1 hp2 (by have := HS.out; omega) HB.out hx
                  have c := part w0 b C off cap n a1 e1 P dk wk HW.out HS.out hp1 hp2 (by omega) hsz
                  rw [hx] at c
                  have HS4 : Hid (d4.size = n) := by show _ = _; rw [q.2.2.1]; exact HS.out
                  obtain ⟨q1, q2, _, qa, qb, ql, qr⟩ := q
                  have QA := hid qa
                  have QB := hid qb
                  have QL := hid ql
                  have QR := hid qr
                  clear qa qb ql qr hx HW
                  refine c.mono ?_
                  clear c
                  rintro x w2 ⟨rfl, h2⟩
                  have HW := hid h2
                  clear h2
                  by_cases hlr : mid - a1 < e1 - mid
                  · have hz : (mid : Int) - (a1 : Int) < (e1 : Int) - (mid : Int) := by omega
                    go_wp2_with fail
                    refine (IH.out a1 mid l1 d4 w2 (by omega) HW.out HS4.out (by omega) (by omega) (by omega) QA.out).mono ?_
                    rintro x w3 ⟨rfl, dl, l1, l2, h3⟩
                    have q8 := QL.out dl l1 l2
                    have H3 := hid h3
                    have Q8 := hid q8.1
                    have Q9 : Hid (Fin d a e dl (mid + 1) e1) := fun R r1 r2 => let t := q8.2 R r1 r2; HF.out R t.1 t.2
                    have HS5 : Hid (dl.size = n) := by show _ = _; rw [l1.1]; exact HS4.out
                    clear l1 l2 q8 h3
                    go_wp2
                    go_roundw
                    case rel => exact ⟨mid + 1, e1, l1, _, ap, dl, by go_num, rfl, by go_num, rfl, rfl, by omega, by omega, by omega, by omega, HS5, H3, Q8, Q9⟩
                    case measure => simp [intOf]; omega
                  · have hz : (e1 : Int) - (mid : Int) ≤ (mid : Int) - (a1 : Int) := by omega
                    go_wp2_with fail
                    have KK := IH.out (mid + 1) e1 l1 d4 w2 (by omega) HW.out HS4.out (by omega) (by omega) (by omega) QB.out
                    rw [show ((mid + 1 : Nat) : Int) = (mid : Int) + 1 by omega] at KK
                    refine KK.mono ?_
                    clear KK
                    rintro x w3 ⟨rfl, dl, l1, l2, h3⟩
                    have q8 := QR.out dl l1 l2
                    have H3 := hid h3
                    have Q8 := hid q8.1
                    have Q9 : Hid (Fin d a e dl a1 mid) := fun R r1 r2 => let t := q8.2 R r1 r2; HF.out R t.1 t.2
                    have HS5 : Hid (dl.size = n) := by show _ = _; rw [l1.1]; exact HS4.out
                    clear l1 l2 q8 h3
                    go_wp2
                    go_roundw
                    case rel => exact ⟨a1, mid, l1, _, ap, dl, rfl, rfl, by go_num, rfl, rfl, by omega, by omega, by omega, by omega, HS5, H3, Q8, Q9⟩
                    case measure => simp [intOf]; omega
            | true =>
              have c := choose w0 b C off cap n a1 e1 dk wr HW.out HS.out (by omega) (by omega) hsz
              have hpr := choosePivot_holds ltInt dk a1 e1 (by omega)
              obtain ⟨p, hint, hx⟩ : ∃ p hint, choosePivot ltInt dk a1 e1 = (p, hint) := ⟨_, _, rfl⟩
              rw [hx] at c hpr
              cases hint with
              | unknown =>
                have c : Calls _ _ #[.slice (some ⟨b, off, none⟩) n cap, .int .i64 a1, .int .i64 e1] wr fun x w' => x = .returned (.tuple #[.int .i64 p, .int .i64 0]) ∧ SAt w0 b C off dk w' := c
                obtain ⟨P, rfl⟩ : ∃ P, P = p := ⟨_, rfl⟩
                have hp1 : a1 ≤ P := hpr.1
                have hp2 : P < e1 := hpr.2
                clear hpr hx
                go_wp2_with fail
                refine c.mono ?_
                clear c
                rintro x w4 ⟨rfl, h2⟩
                clear HW
                have HW := hid h2
                clear h2
                go_wp2_with fail
                have hs := HS.out
                obtain ⟨G, hG⟩ : ∃ G : Nat → Int, ∀ t, G t = dk[t]! := ⟨fun t => dk[t]!, fun _ => rfl⟩
                have hcw : ∀ t, t < n → w4.cell? ⟨b, off + t, none⟩ = some (.int .i32 (G t)) := fun t ht => by rw [hG]; exact HW.out.cell (by omega)
                have hfw : ∀ t, t < n → w4.frozen? ⟨b, off + t, none⟩ = false := fun t _ => HW.out.frozen t
                have HG := hid hG
                clear hG hs
                by_cases ha0 : 0 < a1
                · cases hl : ltInt (G (a1 - 1)) (G P) with
                  | false =>
                    have hnl : ltInt dk[a1 - 1]! dk[P]! = false := by rw [← HG.out, ← HG.out]; exact hl
                    obtain ⟨mid, d4, hx⟩ : ∃ mid d4, partitionEqual ltInt dk a1 e1 P = (mid, d4) := ⟨_, _, rfl⟩
                    have q := round_eq swo_ltInt (partitionEqual_holds ltInt) ha0 hp1 hp2 (by have := HS.out; omega) HB.out hnl hx
                    have HS4 : Hid (d4.size = n) := by show _ = _; rw [q.2.2.1]; exact HS.out
                    have HX := hid hx
                    obtain ⟨q1, q2, _, qb, qf⟩ := q
                    have QB := hid qb
                    have QF : Hid (Fin d a e d4 mid e1) := fun R r1 r2 => let t := qf R r1 r2; HF.out R t.1 t.2
                    clear hnl hx qb qf
                    go_wp2_with fail
                    go_big_quiet (first | (go_at_call 56; refine Calls.quiet_of_same (less _ _ _)))
                    go_wp2_with fail
                    clear hl
                    have HWn : Hid (SAt w0 b C off dk (w4.drewN nq)) := HW.out.drewN nq
                    clear HW hcw hfw
                    generalize w4.drewN nq = wk at HWn ⊢
                    clear nq
                    have HW : Hid (SAt w0 b C off dk wk) := HWn
                    clear HWn
                    have c := partEqual w0 b C off cap n a1 e1 P dk wk HW.out HS.out hp1 hp2 (by omega) hsz
                    rw [HX.out] at c
                    refine c.mono ?_
                    clear c
                    rintro x w2 ⟨rfl, h2⟩
                    have H2 := hid h2
                    clear h2
                    go_wp2
                    go_roundw
                    case rel => exact ⟨mid, e1, l1, true, true, d4, rfl, rfl, by go_num, rfl, rfl, by omega, by omega, by omega, by omega, HS4, H2, QB, QF⟩
                    case measure => simp [intOf]; omega
                  | true =>
                    go_wp2_with fail
                    go_big_quiet (first | (go_at_call 56; refine Calls.quiet_of_same (less _ _ _)))
                    go_wp2_with fail
                    (try clear hl)
                    have HWn : Hid (SAt w0 b C off dk (w4.drewN nq)) := HW.out.drewN nq
                    clear HW hcw hfw
                    generalize w4.drewN nq = wk at HWn ⊢
                    clear nq
                    have HW : Hid (SAt w0 b C off dk wk) := HWn
                    clear HWn
                    clear HG
                    obtain ⟨mid, ap, d4, hx⟩ : ∃ mid ap d4, partition ltInt dk a1 e1 P = (mid, ap, d4) := ⟨_, _, _, rfl⟩
                    have q := round_part swo_ltInt (partition_holds ltInt) hp1 hp2 (by have := HS.out; omega) HB.out hx
                    have c := part w0 b C off cap n a1 e1 P dk wk HW.out HS.out hp1 hp2 (by omega) hsz
                    rw [hx] at c
                    have HS4 : Hid (d4.size = n) := by show _ = _; rw [q.2.2.1]; exact HS.out
                    obtain ⟨q1, q2, _, qa, qb, ql, qr⟩ := q
                    have QA := hid qa
                    have QB := hid qb
                    have QL := hid ql
                    have QR := hid qr
                    clear qa qb ql qr hx HW
                    refine c.mono ?_
                    clear c
                    rintro x w2 ⟨rfl, h2⟩
                    have HW := hid h2
                    clear h2
                    by_cases hlr : mid - a1 < e1 - mid
                    · have hz : (mid : Int) - (a1 : Int) < (e1 : Int) - (mid : Int) := by omega
                      go_wp2_with fail
                      refine (IH.out a1 mid l1 d4 w2 (by omega) HW.out HS4.out (by omega) (by omega) (by omega) QA.out).mono ?_
                      rintro x w3 ⟨rfl, dl, l1, l2, h3⟩
                      have q8 := QL.out dl l1 l2
                      have H3 := hid h3
                      have Q8 := hid q8.1
                      have Q9 : Hid (Fin d a e dl (mid + 1) e1) := fun R r1 r2 => let t := q8.2 R r1 r2; HF.out R t.1 t.2
                      have HS5 : Hid (dl.size = n) := by show _ = _; rw [l1.1]; exact HS4.out
                      clear l1 l2 q8 h3
                      go_wp2
                      go_roundw
                      case rel => exact ⟨mid + 1, e1, l1, _, ap, dl, by go_num, rfl, by go_num, rfl, rfl, by omega, by omega, by omega, by omega, HS5, H3, Q8, Q9⟩
                      case measure => simp [intOf]; omega
                    · have hz : (e1 : Int) - (mid : Int) ≤ (mid : Int) - (a1 : Int) := by omega
                      go_wp2_with fail
                      have KK := IH.out (mid + 1) e1 l1 d4 w2 (by omega) HW.out HS4.out (by omega) (by omega) (by omega) QB.out
                      rw [show ((mid + 1 : Nat) : Int) = (mid : Int) + 1 by omega] at KK
                      refine KK.mono ?_
                      clear KK
                      rintro x w3 ⟨rfl, dl, l1, l2, h3⟩
                      have q8 := QR.out dl l1 l2
                      have H3 := hid h3
                      have Q8 := hid q8.1
                      have Q9 : Hid (Fin d a e dl a1 mid) := fun R r1 r2 => let t := q8.2 R r1 r2; HF.out R t.1 t.2
                      have HS5 : Hid (dl.size = n) := by show _ = _; rw [l1.1]; exact HS4.out
                      clear l1 l2 q8 h3
                      go_wp2
                      go_roundw
                      case rel => exact ⟨a1, mid, l1, _, ap, dl, rfl, rfl, by go_num, rfl, rfl, by omega, by omega, by omega, by omega, HS5, H3, Q8, Q9⟩
                      case measure => simp [intOf]; omega
                · have ha0z : decide (0 < (a1 : Int)) = false := decide_eq_false (by omega)
                  go_wp2_with fail
                  go_big_quiet (first | (go_at_call 56; refine Calls.quiet_of_same (less _ _ _)))
                  go_wp2_with fail
                  (try clear hl)
                  have HWn : Hid (SAt w0 b C off dk (w4.drewN nq)) := HW.out.drewN nq
                  clear HW hcw hfw
                  generalize w4.drewN nq = wk at HWn ⊢
                  clear nq
                  have HW : Hid (SAt w0 b C off dk wk) := HWn
                  clear HWn
                  clear HG
                  obtain ⟨mid, ap, d4, hx⟩ : ∃ mid ap d4, partition ltInt dk a1 e1 P = (mid, ap, d4) := ⟨_, _, _, rfl⟩
                  have q := round_part swo_ltInt (partition_holds ltInt) hp1 hp2 (by have := HS.out; omega) HB.out hx
                  have c := part w0 b C off cap n a1 e1 P dk wk HW.out HS.out hp1 hp2 (by omega) hsz
                  rw [hx] at c
                  have HS4 : Hid (d4.size = n) := by show _ = _; rw [q.2.2.1]; exact HS.out
                  obtain ⟨q1, q2, _, qa, qb, ql, qr⟩ := q
                  have QA := hid qa
                  have QB := hid qb
                  have QL := hid ql
                  have QR := hid qr
                  clear qa qb ql qr hx HW
                  refine c.mono ?_
                  clear c
                  rintro x w2 ⟨rfl, h2⟩
                  have HW := hid h2
                  clear h2
                  by_cases hlr : mid - a1 < e1 - mid
                  · have hz : (mid : Int) - (a1 : Int) < (e1 : Int) - (mid : Int) := by omega
                    go_wp2_with fail
                    refine (IH.out a1 mid l1 d4 w2 (by omega) HW.out HS4.out (by omega) (by omega) (by omega) QA.out).mono ?_
                    rintro x w3 ⟨rfl, dl, l1, l2, h3⟩
                    have q8 := QL.out dl l1 l2
                    have H3 := hid h3
                    have Q8 := hid q8.1
                    have Q9 : Hid (Fin d a e dl (mid + 1) e1) := fun R r1 r2 => let t := q8.2 R r1 r2; HF.out R t.1 t.2
                    have HS5 : Hid (dl.size = n) := by show _ = _; rw [l1.1]; exact HS4.out
                    clear l1 l2 q8 h3
                    go_wp2
                    go_roundw
                    case rel => exact ⟨mid + 1, e1, l1, _, ap, dl, by go_num, rfl, by go_num, rfl, rfl, by omega, by omega, by omega, by omega, HS5, H3, Q8, Q9⟩
                    case measure => simp [intOf]; omega
                  · have hz : (e1 : Int) - (mid : Int) ≤ (mid : Int) - (a1 : Int) := by omega
                    go_wp2_with fail
                    have KK := IH.out (mid + 1) e1 l1 d4 w2 (by omega) HW.out HS4.out (by omega) (by omega) (by omega) QB.out
                    rw [show ((mid + 1 : Nat) : Int) = (mid : Int) + 1 by omega] at KK
                    refine KK.mono ?_
                    clear KK
                    rintro x w3 ⟨rfl, dl, l1, l2, h3⟩
                    have q8 := QR.out dl l1 l2
                    have H3 := hid h3
                    have Q8 := hid q8.1
                    have Q9 : Hid (Fin d a e dl a1 mid) := fun R r1 r2 => let t := q8.2 R r1 r2; HF.out R t.1 t.2
                    have HS5 : Hid (dl.size = n) := by show _ = _; rw [l1.1]; exact HS4.out
                    clear l1 l2 q8 h3
                    go_wp2
                    go_roundw
                    case rel => exact ⟨a1, mid, l1, _, ap, dl, rfl, rfl, by go_num, rfl, rfl, by omega, by omega, by omega, by omega, HS5, H3, Q8, Q9⟩
                    case measure => simp [intOf]; omega
              | increasing =>
                have c : Calls _ _ #[.slice (some ⟨b, off, none⟩) n cap, .int .i64 a1, .int .i64 e1] wr fun x w' => x = .returned (.tuple #[.int .i64 p, .int .i64 1]) ∧ SAt w0 b C off dk w' := c
                obtain ⟨P, rfl⟩ : ∃ P, P = p := ⟨_, rfl⟩
                have hp1 : a1 ≤ P := hpr.1
                have hp2 : P < e1 := hpr.2
                clear hpr hx
                go_wp2_with fail
                refine c.mono ?_
                clear c
                rintro x w4 ⟨rfl, h2⟩
                clear HW
                have HW := hid h2
                clear h2
                have c := partialW w0 b C off cap n a1 e1 dk w4 HW.out HS.out (by omega) (by omega) hsz
                have q := partialInsertionSort_holds (lt := ltInt) swo_ltInt dk a1 e1 (by omega) (by have := HS.out; omega) HB.out
                obtain ⟨d3, r, hx⟩ : ∃ d3 r, partialInsertionSort ltInt dk a1 e1 = (d3, r) := ⟨_, _, rfl⟩
                rw [hx] at c q
                have HS3 : Hid (d3.size = n) := by show _ = _; rw [q.1.1]; exact HS.out
                have HB3 : Hid (Sort.Below ltInt a1 e1 d3) := Sort.Below.perm HB.out (by have := HS.out; omega) q.1
                have HF3 : Hid (Fin d a e d3 a1 e1) := HF.out.perm q.1
                have HQ := hid q
                have HC := hid c
                clear c q hx
                go_wp2_with fail
                refine HC.out.mono ?_
                clear HC
                rintro x w5 ⟨rfl, h2⟩
                clear HW HS HB HF
                have HW := hid h2
                have HS := HS3
                have HB := HB3
                have HF := HF3
                clear HS3 HB3 HF3 h2
                cases r with
                | true =>
                  go_wp2
                  (try simp only [Exit.inBlock, Exit.then])
                  refine bodyPost_ret (results_none rfl _ _ _) rfl ?_
                  exact ⟨rfl, d3, let t := HF.out d3 (permIn_refl _ _ _) (HQ.out.2 (by simp)); ⟨t.1, t.2, HW.out⟩⟩
                | false =>
                  clear HQ
                  go_wp2_with fail
                  have hs := HS.out
                  obtain ⟨G, hG⟩ : ∃ G : Nat → Int, ∀ t, G t = d3[t]! := ⟨fun t => d3[t]!, fun _ => rfl⟩
                  have hcw : ∀ t, t < n → w5.cell? ⟨b, off + t, none⟩ = some (.int .i32 (G t)) := fun t ht => by rw [hG]; exact HW.out.cell (by omega)
                  have hfw : ∀ t, t < n → w5.frozen? ⟨b, off + t, none⟩ = false := fun t _ => HW.out.frozen t
                  have HG := hid hG
                  clear hG hs
                  by_cases ha0 : 0 < a1
                  · cases hl : ltInt (G (a1 - 1)) (G P) with
                    | false =>
                      have hnl : ltInt d3[a1 - 1]! d3[P]! = false := by rw [← HG.out, ← HG.out]; exact hl
                      obtain ⟨mid, d4, hx⟩ : ∃ mid d4, partitionEqual ltInt d3 a1 e1 P = (mid, d4) := ⟨_, _, rfl⟩
                      have q := round_eq swo_ltInt (partitionEqual_holds ltInt) ha0 hp1 hp2 (by have := HS.out; omega) HB.out hnl hx
                      have HS4 : Hid (d4.size = n) := by show _ = _; rw [q.2.2.1]; exact HS.out
                      have HX := hid hx
                      obtain ⟨q1, q2, _, qb, qf⟩ := q
                      have QB := hid qb
                      have QF : Hid (Fin d a e d4 mid e1) := fun R r1 r2 => let t := qf R r1 r2; HF.out R t.1 t.2
                      clear hnl hx qb qf
                      go_wp2_with fail
                      go_big_quiet (first | (go_at_call 56; refine Calls.quiet_of_same (less _ _ _)))
                      go_wp2_with fail
                      clear hl
                      have HWn : Hid (SAt w0 b C off d3 (w5.drewN nq)) := HW.out.drewN nq
                      clear HW hcw hfw
                      generalize w5.drewN nq = wk at HWn ⊢
                      clear nq
                      have HW : Hid (SAt w0 b C off d3 wk) := HWn
                      clear HWn
                      have c := partEqual w0 b C off cap n a1 e1 P d3 wk HW.out HS.out hp1 hp2 (by omega) hsz
                      rw [HX.out] at c
                      refine c.mono ?_
                      clear c
                      rintro x w2 ⟨rfl, h2⟩
                      have H2 := hid h2
                      clear h2
                      go_wp2
                      go_roundw
                      case rel => exact ⟨mid, e1, l1, true, true, d4, rfl, rfl, by go_num, rfl, rfl, by omega, by omega, by omega, by omega, HS4, H2, QB, QF⟩
                      case measure => simp [intOf]; omega
                    | true =>
                      go_wp2_with fail
                      go_big_quiet (first | (go_at_call 56; refine Calls.quiet_of_same (less _ _ _)))
                      go_wp2_with fail
                      (try clear hl)
                      have HWn : Hid (SAt w0 b C off d3 (w5.drewN nq)) := HW.out.drewN nq
                      clear HW hcw hfw
                      generalize w5.drewN nq = wk at HWn ⊢
                      clear nq
                      have HW : Hid (SAt w0 b C off d3 wk) := HWn
                      clear HWn
                      clear HG
                      obtain ⟨mid, ap, d4, hx⟩ : ∃ mid ap d4, partition ltInt d3 a1 e1 P = (mid, ap, d4) := ⟨_, _, _, rfl⟩
                      have q := round_part swo_ltInt (partition_holds ltInt) hp1 hp2 (by have := HS.out; omega) HB.out hx
                      have c := part w0 b C off cap n a1 e1 P d3 wk HW.out HS.out hp1 hp2 (by omega) hsz
                      rw [hx] at c
                      have HS4 : Hid (d4.size = n) := by show _ = _; rw [q.2.2.1]; exact HS.out
                      obtain ⟨q1, q2, _, qa, qb, ql, qr⟩ := q
                      have QA := hid qa
                      have QB := hid qb
                      have QL := hid ql
                      have QR := hid qr
                      clear qa qb ql qr hx HW
                      refine c.mono ?_
                      clear c
                      rintro x w2 ⟨rfl, h2⟩
                      have HW := hid h2
                      clear h2
                      by_cases hlr : mid - a1 < e1 - mid
                      · have hz : (mid : Int) - (a1 : Int) < (e1 : Int) - (mid : Int) := by omega
                        go_wp2_with fail
                        refine (IH.out a1 mid l1 d4 w2 (by omega) HW.out HS4.out (by omega) (by omega) (by omega) QA.out).mono ?_
                        rintro x w3 ⟨rfl, dl, l1, l2, h3⟩
                        have q8 := QL.out dl l1 l2
                        have H3 := hid h3
                        have Q8 := hid q8.1
                        have Q9 : Hid (Fin d a e dl (mid + 1) e1) := fun R r1 r2 => let t := q8.2 R r1 r2; HF.out R t.1 t.2
                        have HS5 : Hid (dl.size = n) := by show _ = _; rw [l1.1]; exact HS4.out
                        clear l1 l2 q8 h3
                        go_wp2
                        go_roundw
                        case rel => exact ⟨mid + 1, e1, l1, _, ap, dl, by go_num, rfl, by go_num, rfl, rfl, by omega, by omega, by omega, by omega, HS5, H3, Q8, Q9⟩
                        case measure => simp [intOf]; omega
                      · have hz : (e1 : Int) - (mid : Int) ≤ (mid : Int) - (a1 : Int) := by omega
                        go_wp2_with fail
                        have KK := IH.out (mid + 1) e1 l1 d4 w2 (by omega) HW.out HS4.out (by omega) (by omega) (by omega) QB.out
                        rw [show ((mid + 1 : Nat) : Int) = (mid : Int) + 1 by omega] at KK
                        refine KK.mono ?_
                        clear KK
                        rintro x w3 ⟨rfl, dl, l1, l2, h3⟩
                        have q8 := QR.out dl l1 l2
                        have H3 := hid h3
                        have Q8 := hid q8.1
                        have Q9 : Hid (Fin d a e dl a1 mid) := fun R r1 r2 => let t := q8.2 R r1 r2; HF.out R t.1 t.2
                        have HS5 : Hid (dl.size = n) := by show _ = _; rw [l1.1]; exact HS4.out
                        clear l1 l2 q8 h3
                        go_wp2
                        go_roundw
                        case rel => exact ⟨a1, mid, l1, _, ap, dl, rfl, rfl, by go_num, rfl, rfl, by omega, by omega, by omega, by omega, HS5, H3, Q8, Q9⟩
                        case measure => simp [intOf]; omega
                  · have ha0z : decide (0 < (a1 : Int)) = false := decide_eq_false (by omega)
                    go_wp2_with fail
                    go_big_quiet (first | (go_at_call 56; refine Calls.quiet_of_same (less _ _ _)))
                    go_wp2_with fail
                    (try clear hl)
                    have HWn : Hid (SAt w0 b C off d3 (w5.drewN nq)) := HW.out.drewN nq
                    clear HW hcw hfw
                    generalize w5.drewN nq = wk at HWn ⊢
                    clear nq
                    have HW : Hid (SAt w0 b C off d3 wk) := HWn
                    clear HWn
                    clear HG
                    obtain ⟨mid, ap, d4, hx⟩ : ∃ mid ap d4, partition ltInt d3 a1 e1 P = (mid, ap, d4) := ⟨_, _, _, rfl⟩
                    have q := round_part swo_ltInt (partition_holds ltInt) hp1 hp2 (by have := HS.out; omega) HB.out hx
                    have c := part w0 b C off cap n a1 e1 P d3 wk HW.out HS.out hp1 hp2 (by omega) hsz
                    rw [hx] at c
                    have HS4 : Hid (d4.size = n) := by show _ = _; rw [q.2.2.1]; exact HS.out
                    obtain ⟨q1, q2, _, qa, qb, ql, qr⟩ := q
                    have QA := hid qa
                    have QB := hid qb
                    have QL := hid ql
                    have QR := hid qr
                    clear qa qb ql qr hx HW
                    refine c.mono ?_
                    clear c
                    rintro x w2 ⟨rfl, h2⟩
                    have HW := hid h2
                    clear h2
                    by_cases hlr : mid - a1 < e1 - mid
                    · have hz : (mid : Int) - (a1 : Int) < (e1 : Int) - (mid : Int) := by omega
                      go_wp2_with fail
                      refine (IH.out a1 mid l1 d4 w2 (by omega) HW.out HS4.out (by omega) (by omega) (by omega) QA.out).mono ?_
                      rintro x w3 ⟨rfl, dl, l1, l2, h3⟩
                      have q8 := QL.out dl l1 l2
                      have H3 := hid h3
                      have Q8 := hid q8.1
                      have Q9 : Hid (Fin d a e dl (mid + 1) e1) := fun R r1 r2 => let t := q8.2 R r1 r2; HF.out R t.1 t.2
                      have HS5 : Hid (dl.size = n) := by show _ = _; rw [l1.1]; exact HS4.out
                      clear l1 l2 q8 h3
                      go_wp2
                      go_roundw
                      case rel => exact ⟨mid + 1, e1, l1, _, ap, dl, by go_num, rfl, by go_num, rfl, rfl, by omega, by omega, by omega, by omega, HS5, H3, Q8, Q9⟩
                      case measure => simp [intOf]; omega
                    · have hz : (e1 : Int) - (mid : Int) ≤ (mid : Int) - (a1 : Int) := by omega
                      go_wp2_with fail
                      have KK := IH.out (mid + 1) e1 l1 d4 w2 (by omega) HW.out HS4.out (by omega) (by omega) (by omega) QB.out
                      rw [show ((mid + 1 : Nat) : Int) = (mid : Int) + 1 by omega] at KK
                      refine KK.mono ?_
                      clear KK
                      rintro x w3 ⟨rfl, dl, l1, l2, h3⟩
                      have q8 := QR.out dl l1 l2
                      have H3 := hid h3
                      have Q8 := hid q8.1
                      have Q9 : Hid (Fin d a e dl a1 mid) := fun R r1 r2 => let t := q8.2 R r1 r2; HF.out R t.1 t.2
                      have HS5 : Hid (dl.size = n) := by show _ = _; rw [l1.1]; exact HS4.out
                      clear l1 l2 q8 h3
                      go_wp2
                      go_roundw
                      case rel => exact ⟨a1, mid, l1, _, ap, dl, rfl, rfl, by go_num, rfl, rfl, by omega, by omega, by omega, by omega, HS5, H3, Q8, Q9⟩
                      case measure => simp [intOf]; omega
              | decreasing =>
                have c : Calls _ _ #[.slice (some ⟨b, off, none⟩) n cap, .int .i64 a1, .int .i64 e1] wr fun x w' => x = .returned (.tuple #[.int .i64 p, .int .i64 2]) ∧ SAt w0 b C off dk w' := c
                clear hx
                go_wp2_with fail
                refine c.mono ?_
                clear c
                rintro x w4 ⟨rfl, h2⟩
                clear HW
                have HW := hid h2
                clear h2
                obtain ⟨P, hP⟩ : ∃ P : Nat, P = e1 - 1 - (p - a1) := ⟨_, rfl⟩
                have hp1 : a1 ≤ P := by omega
                have hp2 : P < e1 := by omega
                have EP : Hid ((e1 : Int) - 1 - ((p : Int) - (a1 : Int)) = (P : Int)) := by show _ = _; omega
                clear hP
                have pz1 : a1 ≤ p := hpr.1
                have pz2 : p < e1 := hpr.2
                clear hpr
                have c := reverse w0 b C off cap n a1 e1 dk w4 HW.out HS.out (by omega) (by omega) hsz
                have q := reverseRange_holds dk a1 e1 (by omega) (by have := HS.out; omega)
                generalize reverseRange dk a1 e1 = d2 at c q
                go_wp2_with fail
                refine c.mono ?_
                clear c
                rintro x wv ⟨rfl, h2⟩
                have HS3 : Hid (d2.size = n) := by show _ = _; rw [q.1]; exact HS.out
                have HB3 : Hid (Sort.Below ltInt a1 e1 d2) := Sort.Below.perm HB.out (by have := HS.out; omega) q
                have HF3 : Hid (Fin d a e d2 a1 e1) := HF.out.perm q
                clear HW HS HB HF
                have HW := hid h2
                have HS := HS3
                have HB := HB3
                have HF := HF3
                clear HS3 HB3 HF3 h2 q
                go_wp2_with fail
                (try rw [EP.out])
                clear EP
                have c := partialW w0 b C off cap n a1 e1 d2 wv HW.out HS.out (by omega) (by omega) hsz
                have q := partialInsertionSort_holds (lt := ltInt) swo_ltInt d2 a1 e1 (by omega) (by have := HS.out; omega) HB.out
                obtain ⟨d3, r, hx⟩ : ∃ d3 r, partialInsertionSort ltInt d2 a1 e1 = (d3, r) := ⟨_, _, rfl⟩
                rw [hx] at c q
                have HS3 : Hid (d3.size = n) := by show _ = _; rw [q.1.1]; exact HS.out
                have HB3 : Hid (Sort.Below ltInt a1 e1 d3) := Sort.Below.perm HB.out (by have := HS.out; omega) q.1
                have HF3 : Hid (Fin d a e d3 a1 e1) := HF.out.perm q.1
                have HQ := hid q
                have HC := hid c
                clear c q hx
                go_wp2_with fail
                refine HC.out.mono ?_
                clear HC
                rintro x w5 ⟨rfl, h2⟩
                clear HW HS HB HF
                have HW := hid h2
                have HS := HS3
                have HB := HB3
                have HF := HF3
                clear HS3 HB3 HF3 h2
                cases r with
                | true =>
                  go_wp2
                  (try simp only [Exit.inBlock, Exit.then])
                  refine bodyPost_ret (results_none rfl _ _ _) rfl ?_
                  exact ⟨rfl, d3, let t := HF.out d3 (permIn_refl _ _ _) (HQ.out.2 (by simp)); ⟨t.1, t.2, HW.out⟩⟩
                | false =>
                  clear HQ
                  go_wp2_with fail
                  have hs := HS.out
                  obtain ⟨G, hG⟩ : ∃ G : Nat → Int, ∀ t, G t = d3[t]! := ⟨fun t => d3[t]!, fun _ => rfl⟩
                  have hcw : ∀ t, t < n → w5.cell? ⟨b, off + t, none⟩ = some (.int .i32 (G t)) := fun t ht => by rw [hG]; exact HW.out.cell (by omega)
                  have hfw : ∀ t, t < n → w5.frozen? ⟨b, off + t, none⟩ = false := fun t _ => HW.out.frozen t
                  have HG := hid hG
                  clear hG hs
                  by_cases ha0 : 0 < a1
                  · cases hl : ltInt (G (a1 - 1)) (G P) with
                    | false =>
                      have hnl : ltInt d3[a1 - 1]! d3[P]! = false := by rw [← HG.out, ← HG.out]; exact hl
                      obtain ⟨mid, d4, hx⟩ : ∃ mid d4, partitionEqual ltInt d3 a1 e1 P = (mid, d4) := ⟨_, _, rfl⟩
                      have q := round_eq swo_ltInt (partitionEqual_holds ltInt) ha0 hp1 hp2 (by have := HS.out; omega) HB.out hnl hx
                      have HS4 : Hid (d4.size = n) := by show _ = _; rw [q.2.2.1]; exact HS.out
                      have HX := hid hx
                      obtain ⟨q1, q2, _, qb, qf⟩ := q
                      have QB := hid qb
                      have QF : Hid (Fin d a e d4 mid e1) := fun R r1 r2 => let t := qf R r1 r2; HF.out R t.1 t.2
                      clear hnl hx qb qf
                      go_wp2_with fail
                      go_big_quiet (first | (go_at_call 56; refine Calls.quiet_of_same (less _ _ _)))
                      go_wp2_with fail
                      clear hl
                      have HWn : Hid (SAt w0 b C off d3 (w5.drewN nq)) := HW.out.drewN nq
                      clear HW hcw hfw
                      generalize w5.drewN nq = wk at HWn ⊢
                      clear nq
                      have HW : Hid (SAt w0 b C off d3 wk) := HWn
                      clear HWn
                      have c := partEqual w0 b C off cap n a1 e1 P d3 wk HW.out HS.out hp1 hp2 (by omega) hsz
                      rw [HX.out] at c
                      refine c.mono ?_
                      clear c
                      rintro x w2 ⟨rfl, h2⟩
                      have H2 := hid h2
                      clear h2
                      go_wp2
                      go_roundw
                      case rel => exact ⟨mid, e1, l1, true, true, d4, rfl, rfl, by go_num, rfl, rfl, by omega, by omega, by omega, by omega, HS4, H2, QB, QF⟩
                      case measure => simp [intOf]; omega
                    | true =>
                      go_wp2_with fail
                      go_big_quiet (first | (go_at_call 56; refine Calls.quiet_of_same (less _ _ _)))
                      go_wp2_with fail
                      (try clear hl)
                      have HWn : Hid (SAt w0 b C off d3 (w5.drewN nq)) := HW.out.drewN nq
                      clear HW hcw hfw
                      generalize w5.drewN nq = wk at HWn ⊢
                      clear nq
                      have HW : Hid (SAt w0 b C off d3 wk) := HWn
                      clear HWn
                      clear HG
                      obtain ⟨mid, ap, d4, hx⟩ : ∃ mid ap d4, partition ltInt d3 a1 e1 P = (mid, ap, d4) := ⟨_, _, _, rfl⟩
                      have q := round_part swo_ltInt (partition_holds ltInt) hp1 hp2 (by have := HS.out; omega) HB.out hx
                      have c := part w0 b C off cap n a1 e1 P d3 wk HW.out HS.out hp1 hp2 (by omega) hsz
                      rw [hx] at c
                      have HS4 : Hid (d4.size = n) := by show _ = _; rw [q.2.2.1]; exact HS.out
                      obtain ⟨q1, q2, _, qa, qb, ql, qr⟩ := q
                      have QA := hid qa
                      have QB := hid qb
                      have QL := hid ql
                      have QR := hid qr
                      clear qa qb ql qr hx HW
                      refine c.mono ?_
                      clear c
                      rintro x w2 ⟨rfl, h2⟩
                      have HW := hid h2
                      clear h2
                      by_cases hlr : mid - a1 < e1 - mid
                      · have hz : (mid : Int) - (a1 : Int) < (e1 : Int) - (mid : Int) := by omega
                        go_wp2_with fail
                        refine (IH.out a1 mid l1 d4 w2 (by omega) HW.out HS4.out (by omega) (by omega) (by omega) QA.out).mono ?_
                        rintro x w3 ⟨rfl, dl, l1, l2, h3⟩
                        have q8 := QL.out dl l1 l2
                        have H3 := hid h3
                        have Q8 := hid q8.1
                        have Q9 : Hid (Fin d a e dl (mid + 1) e1) := fun R r1 r2 => let t := q8.2 R r1 r2; HF.out R t.1 t.2
                        have HS5 : Hid (dl.size = n) := by show _ = _; rw [l1.1]; exact HS4.out
                        clear l1 l2 q8 h3
                        go_wp2
                        go_roundw
                        case rel => exact ⟨mid + 1, e1, l1, _, ap, dl, by go_num, rfl, by go_num, rfl, rfl, by omega, by omega, by omega, by omega, HS5, H3, Q8, Q9⟩
                        case measure => simp [intOf]; omega
                      · have hz : (e1 : Int) - (mid : Int) ≤ (mid : Int) - (a1 : Int) := by omega
                        go_wp2_with fail
                        have KK := IH.out (mid + 1) e1 l1 d4 w2 (by omega) HW.out HS4.out (by omega) (by omega) (by omega) QB.out
                        rw [show ((mid + 1 : Nat) : Int) = (mid : Int) + 1 by omega] at KK
                        refine KK.mono ?_
                        clear KK
                        rintro x w3 ⟨rfl, dl, l1, l2, h3⟩
                        have q8 := QR.out dl l1 l2
                        have H3 := hid h3
                        have Q8 := hid q8.1
                        have Q9 : Hid (Fin d a e dl a1 mid) := fun R r1 r2 => let t := q8.2 R r1 r2; HF.out R t.1 t.2
                        have HS5 : Hid (dl.size = n) := by show _ = _; rw [l1.1]; exact HS4.out
                        clear l1 l2 q8 h3
                        go_wp2
                        go_roundw
                        case rel => exact ⟨a1, mid, l1, _, ap, dl, rfl, rfl, by go_num, rfl, rfl, by omega, by omega, by omega, by omega, HS5, H3, Q8, Q9⟩
                        case measure => simp [intOf]; omega
                  · have ha0z : decide (0 < (a1 : Int)) = false := decide_eq_false (by omega)
                    go_wp2_with fail
                    go_big_quiet (first | (go_at_call 56; refine Calls.quiet_of_same (less _ _ _)))
                    go_wp2_with fail
                    (try clear hl)
                    have HWn : Hid (SAt w0 b C off d3 (w5.drewN nq)) := HW.out.drewN nq
                    clear HW hcw hfw
                    generalize w5.drewN nq = wk at HWn ⊢
                    clear nq
                    have HW : Hid (SAt w0 b C off d3 wk) := HWn
                    clear HWn
                    clear HG
                    obtain ⟨mid, ap, d4, hx⟩ : ∃ mid ap d4, partition ltInt d3 a1 e1 P = (mid, ap, d4) := ⟨_, _, _, rfl⟩
                    have q := round_part swo_ltInt (partition_holds ltInt) hp1 hp2 (by have := HS.out; omega) HB.out hx
                    have c := part w0 b C off cap n a1 e1 P d3 wk HW.out HS.out hp1 hp2 (by omega) hsz
                    rw [hx] at c
                    have HS4 : Hid (d4.size = n) := by show _ = _; rw [q.2.2.1]; exact HS.out
                    obtain ⟨q1, q2, _, qa, qb, ql, qr⟩ := q
                    have QA := hid qa
                    have QB := hid qb
                    have QL := hid ql
                    have QR := hid qr
                    clear qa qb ql qr hx HW
                    refine c.mono ?_
                    clear c
                    rintro x w2 ⟨rfl, h2⟩
                    have HW := hid h2
                    clear h2
                    by_cases hlr : mid - a1 < e1 - mid
                    · have hz : (mid : Int) - (a1 : Int) < (e1 : Int) - (mid : Int) := by omega
                      go_wp2_with fail
                      refine (IH.out a1 mid l1 d4 w2 (by omega) HW.out HS4.out (by omega) (by omega) (by omega) QA.out).mono ?_
                      rintro x w3 ⟨rfl, dl, l1, l2, h3⟩
                      have q8 := QL.out dl l1 l2
                      have H3 := hid h3
                      have Q8 := hid q8.1
                      have Q9 : Hid (Fin d a e dl (mid + 1) e1) := fun R r1 r2 => let t := q8.2 R r1 r2; HF.out R t.1 t.2
                      have HS5 : Hid (dl.size = n) := by show _ = _; rw [l1.1]; exact HS4.out
                      clear l1 l2 q8 h3
                      go_wp2
                      go_roundw
                      case rel => exact ⟨mid + 1, e1, l1, _, ap, dl, by go_num, rfl, by go_num, rfl, rfl, by omega, by omega, by omega, by omega, HS5, H3, Q8, Q9⟩
                      case measure => simp [intOf]; omega
                    · have hz : (e1 : Int) - (mid : Int) ≤ (mid : Int) - (a1 : Int) := by omega
                      go_wp2_with fail
                      have KK := IH.out (mid + 1) e1 l1 d4 w2 (by omega) HW.out HS4.out (by omega) (by omega) (by omega) QB.out
                      rw [show ((mid + 1 : Nat) : Int) = (mid : Int) + 1 by omega] at KK
                      refine KK.mono ?_
                      clear KK
                      rintro x w3 ⟨rfl, dl, l1, l2, h3⟩
                      have q8 := QR.out dl l1 l2
                      have H3 := hid h3
                      have Q8 := hid q8.1
                      have Q9 : Hid (Fin d a e dl a1 mid) := fun R r1 r2 => let t := q8.2 R r1 r2; HF.out R t.1 t.2
                      have HS5 : Hid (dl.size = n) := by show _ = _; rw [l1.1]; exact HS4.out
                      clear l1 l2 q8 h3
                      go_wp2
                      go_roundw
                      case rel => exact ⟨a1, mid, l1, _, ap, dl, rfl, rfl, by go_num, rfl, rfl, by omega, by omega, by omega, by omega, HS5, H3, Q8, Q9⟩
                      case measure => simp [intOf]; omega
end Go.Proofs.Qxb6602790a
