import Derived.Test.Qxb6602790aQAsk
namespace Go.Proofs.Qxb6602790a
open Go.RowKit Go.Deep QLaw

/-- What ZZQueryAsk hands back. -/
def AskedOut (w : World) (qb mb : Nat) (ord ss : List ByteArray) (e : Ending) (w' : World) : Prop :=
  ∃ (wl : Bool) (p : Option Addr) (n c : Nat), e = .returned (.tuple #[.bool wl, .slice p n c]) ∧ (wl = true ↔ star ∈ ss) ∧ n ≤ ss.length ∧ Got w' (fs ord ss) ss p n ∧ Query w' qb mb (fs ord ss) ∧ w.grownBy w' (some mb) ∧
    ∀ b, p = some ⟨b, 0, none⟩ → w.heap.size ≤ b ∧ b < w'.heap.size

theorem Got.kept {w w' : World} {ord vs : List ByteArray} {p : Option Addr} {n : Nat} {row : Option Nat} (h : Got w ord vs p n) (hg : w.grownBy w' row) (hp : ∀ b, p = some ⟨b, 0, none⟩ → some b ≠ row) : Got w' ord vs p n := by
  obtain ⟨zs, h1, h2, h3, h4⟩ := h.nums
  refine ⟨⟨zs, h1, h2, h3, fun i hi => ?_⟩, h.nil⟩
  obtain ⟨b, e, hc⟩ := h4 i hi
  exact ⟨b, e, by rw [World.cell?_of_block (w := w) (hg.block b (World.block_lt_of_cell? w _ hc) (hp b e))]; exact hc⟩

set_option maxHeartbeats 4000000 in
set_option maxRecDepth 100000 in
theorem queryAsk_w (qb mb : Nat) (ord : List ByteArray) (p : Option Addr) (n c : Nat) (ss : List ByteArray) (w : World) (hq : Query w qb mb ord) (hg : QLaw.Good ord) (hs : Strs w p n ss) (hS : Short n ss) (hm : ord.length + n ≤ 8192) (hmb : mb < w.heap.size)
    (hpm : ∀ b off, p = some ⟨b, off, none⟩ → b ≠ mb) :
    Calls Try.prog 13 #[.pointer (some ⟨qb, 0, none⟩), .slice p n c] w fun e w' => AskedOut w qb mb ord ss e w' := by
  have K := hid (ask_w qb mb ord p n c ss w hq hg hs hS hm hmb hpm)
  clear hq hg hs hS hm hmb hpm
  go_enter Try.func13, Try.ntmps13
  go_wp2_with fail
  refine K.out.mono ?_
  rintro e w1 ⟨wl, p1, n1, c1, rfl, h1, h2, h3, h4, h5, h6⟩
  have H1 := hid h1
  have H2 := hid h2
  have H3 := hid h3
  have H4 := hid h4
  have H5 := hid h5
  have H6 := hid h6
  clear h1 h2 h3 h4 h5 h6
  go_wp2_with fail
  go_region
  go_wp2
  go_ret2
  refine ⟨wl, p1, n1, c1, rfl, H1.out, H2.out, ?_, ?_, ?_, ?_⟩
  · exact H3.out.kept (row := none) (grownBy_drew (World.grownBy_alloc w1 _ none)) (by simp)
  · exact H4.out.kept (row := none) (grownBy_drew (World.grownBy_alloc w1 _ none)) (by simp) (by simp)
  · exact grownBy_drew (grownBy_alloc' H5.out _)
  · intro b e
    have := H6.out b e
    exact ⟨this.1, by show b < (w1.alloc _).heap.size; rw [nblk_alloc]; omega⟩

/-! ### lawAskMatches -/
def Half (zs : List Int) (k idx : Nat) : Prop := idx ≤ zs.length ∧ (∀ i, i < idx → zs.getD i 0 < (k : Int)) ∧ ∀ i, idx ≤ i → i < zs.length → (k : Int) ≤ zs.getD i 0

theorem getD_int {zs : List Int} {i : Nat} (h : i < zs.length) : zs.getD i 0 = zs[i] := by
  rw [List.getD_eq_getElem?_getD, List.getElem?_eq_getElem h]; rfl
theorem rising {zs : List Int} (h : zs.Pairwise (· < ·)) {i j : Nat} (hij : i < j) (hj : j < zs.length) : zs.getD i 0 < zs.getD j 0 := by
  rw [getD_int hj, getD_int (by omega)]
  exact List.pairwise_iff_getElem.1 h i j (by omega) hj hij
theorem Half.hit {zs : List Int} {k idx : Nat} (hp : zs.Pairwise (· < ·)) (h : Half zs k idx) (hm : (k : Int) ∈ zs) : idx < zs.length ∧ zs.getD idx 0 = (k : Int) ∧ Half zs (k + 1) (idx + 1) := by
  obtain ⟨i, hi, e⟩ := List.mem_iff_getElem.1 hm
  rw [← getD_int hi] at e
  have h1 : idx ≤ i := by
    rcases Nat.lt_or_ge i idx with h1 | h1
    · have := h.2.1 i h1; omega
    · exact h1
  have h2 : idx = i := by
    rcases Nat.eq_or_lt_of_le h1 with h2 | h2
    · exact h2
    · have a := h.2.2 idx (Nat.le_refl _) (by omega)
      have b := rising hp h2 hi
      omega
  subst h2
  refine ⟨hi, e, by omega, fun i h3 => ?_, fun i h3 h4 => ?_⟩
  · rcases Nat.eq_or_lt_of_le (show i ≤ idx by omega) with rfl | h5
    · omega
    · have := h.2.1 i h5; omega
  · have := rising hp (show idx < i by omega) h4
    omega
theorem Half.miss {zs : List Int} {k idx : Nat} (h : Half zs k idx) (hm : (k : Int) ∉ zs) : Half zs (k + 1) idx := by
  refine ⟨h.1, fun i h1 => by have := h.2.1 i h1; omega, fun i h1 h2 => ?_⟩
  have h3 := h.2.2 i h1 h2
  have h4 : zs.getD i 0 ≠ (k : Int) := fun e => hm (by rw [← e, getD_int h2]; exact List.getElem_mem _)
  omega
theorem Half.end_ {zs : List Int} {k idx : Nat} (h : Half zs k idx) (hb : ∀ z ∈ zs, z < (k : Int)) : idx = zs.length := by
  rcases Nat.lt_or_ge idx zs.length with h1 | h1
  · have a := h.2.2 idx (Nat.le_refl _) h1
    have b := hb (zs.getD idx 0) (by rw [getD_int h1]; exact List.getElem_mem h1)
    omega
  · have := h.1; omega

set_option maxHeartbeats 8000000 in
set_option maxRecDepth 100000 in
theorem matches_w (po : Option Addr) (mo co : Nat) (all : List ByteArray) (pv : Option Addr) (nv cv : Nat) (vs : List ByteArray) (wl : Bool) (p : Option Addr) (n c : Nat) (ord : List ByteArray) (w : World)
    (ho : Strs w po mo all) (hv : Strs w pv nv vs) (hw : wl = true ↔ star ∈ vs) (hg : Got w ord vs p n) (hgood : QLaw.Good all) (hext : ∀ (i : Nat) (x : ByteArray), ord[i]? = some x → all[i]? = some x)
    (hcov : ∀ x, x ∈ vs → x ≠ star → x ∈ ord) (hmo : mo ≤ 8192) (hnv : nv ≤ 8192) (hn : n ≤ 8192) :
    Calls Try.prog 14 #[.slice po mo co, .slice pv nv cv, .bool wl, .slice p n c] w fun e w' => e = .returned (.bool true) ∧ w' = w := by
  obtain ⟨zs, hzl, hzp, hzn, hzc⟩ := hg.nums
  have hmem : ∀ k x, all[k]? = some x → (x ∈ vs ↔ ((k : Nat) : Int) ∈ zs) := fun k x hk => by
    rw [hzn]
    constructor
    · intro hx
      have hns : x ≠ star := fun e => hgood.nostar (e ▸ List.mem_of_getElem? hk)
      obtain ⟨i, hi⟩ := List.mem_iff_getElem?.1 (hcov x hx hns)
      have hik := nodup_get hgood.nodup (hext i x hi) hk
      exact ⟨i, x, by rw [hik], hi, hx⟩
    · rintro ⟨i, y, e, hy, hv⟩
      have hik : i = k := by omega
      subst hik
      have := hext i y hy
      rw [hk] at this
      injection this with this
      rw [this]; exact hv
  have hbd : ∀ z ∈ zs, z < (mo : Int) := fun z hz => by
    obtain ⟨i, x, e, hi, _⟩ := (hzn z).1 hz
    have := (List.getElem?_eq_some_iff.1 (hext i x hi)).1
    rw [ho.len] at this
    omega
  have HNn : Hid (∀ z ∈ zs, ((0 : Nat) : Int) ≤ z) := fun z hz => by
    obtain ⟨i, _, e, _⟩ := (hzn z).1 hz
    omega
  have HO := hid ho
  have HV := hid hv
  have HW := hid hw
  have HP := hid hzp
  have HZL := hid hzl
  have HZC := hid hzc
  have HMem := hid hmem
  have HBd := hid hbd
  have HNil := hid hg.nil
  clear ho hv hw hzp hzl hzc hmem hbd hg hgood hext hcov hzn
  have C1 := hid (index_w pv nv cv vs star w HV.out (by omega))
  go_enter Try.func14, Try.ntmps14
  go_wp2_with fail
  refine C1.out.mono ?_
  rintro e w1 ⟨⟨r, rfl, hf⟩, rfl⟩
  have hwl : (!(wl == decide (0 ≤ r))) = false := by
    rcases hf with ⟨h1, h2⟩ | ⟨h1, h2⟩
    · rw [HW.out.2 h2]; simp [h1]
    · cases wl with
      | true => exact absurd (HW.out.1 rfl) h2
      | false => simp; omega
  clear hf C1
  have hq := fun w => Lib.run_eql_slice_nil (P := Try.prog) w 29 21 p n c 0 0 Try.underlying29
  go_wp2
  go_loop [9, 18] (fun vi vk => ∃ idx k : Nat, vi = .int .i64 idx ∧ vk = .int .i64 k ∧ k ≤ mo ∧ idx ≤ n ∧ Half zs k idx) (fun _ vk => mo - (intOf vk).toNat)
  case atStart => exact ⟨0, 0, rfl, rfl, Nat.zero_le _, Nat.zero_le _, Nat.zero_le _, fun i hi => absurd hi (by omega), fun i _ hi => by
    rw [getD_int hi]; exact HNn.out _ (List.getElem_mem hi)⟩
  case round =>
    obtain ⟨idx, k, rfl, rfl, hk, hidx, HH⟩ := hrel
    by_cases hlt : k < mo
    · obtain ⟨b, off, hpe, hc⟩ := HO.out.at_ k hlt
      subst hpe
      have hcell := hc k hlt
      clear hc
      have hkl : k < all.length := by rw [HO.out.len]; exact hlt
      have HK := hid (HMem.out k all[k] (List.getElem?_eq_getElem hkl))
      rw [← getD_eq hkl] at HK
      generalize all.getD k ByteArray.empty = s at hcell HK
      have C := hid (index_w pv nv cv vs s w1 HV.out (by omega))
      go_wp2_with fail
      refine C.out.mono ?_
      rintro e w2 ⟨⟨r2, rfl, hf⟩, rfl⟩
      rcases hf with ⟨h1, h2⟩ | ⟨rfl, h2⟩
      · obtain ⟨h3, h4, h5⟩ := Half.hit HP.out HH (HK.out.1 h2)
        rw [HZL.out] at h3
        obtain ⟨gb, hpe, hgc⟩ := HZC.out idx h3
        rw [h4] at hgc
        subst hpe
        clear h2 h4 HH
        have H5 := hid h5
        clear h5
        go_wp2
        go_round
        case rel => exact ⟨idx + 1, k + 1, by go_num, by go_num, by omega, by omega, H5.out⟩
        case measure => simp [intOf]; omega
      · have h5 := hid (Half.miss HH (fun hm => h2 (HK.out.2 hm)))
        clear h2 HH
        go_wp2
        go_round
        case rel => exact ⟨idx, k + 1, rfl, by go_num, by omega, by omega, h5.out⟩
        case measure => simp [intOf]; omega
    · have he := Half.end_ HH (by have : k = mo := by omega
                                  rw [this]; exact HBd.out)
      rw [HZL.out] at he
      subst he
      have hne : ((idx : Int) == (idx : Int)) = true := by simp
      cases p with
      | none =>
        have h0 := HNil.out.1 rfl
        subst h0
        go_wp2
        go_ret
        exact ⟨rfl, rfl⟩
      | some pa =>
        have h0 : idx ≠ 0 := fun e => by have := HNil.out.2 e; cases this
        have hz : ((idx : Int) == 0) = false := beq_eq_false_iff_ne.2 (by omega)
        go_wp2
        go_ret
        exact ⟨rfl, rfl⟩
end Go.Proofs.Qxb6602790a
