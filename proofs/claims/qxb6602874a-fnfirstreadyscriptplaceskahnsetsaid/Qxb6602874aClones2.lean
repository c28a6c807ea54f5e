import Derived.Test.Qxb6602874aClones
namespace Go.Proofs.Qxb6602874a
open Go.RowKit Go.Deep

theorem Deps.below {w w' : World} {a : Option Addr} {n b o : Nat} {A : Nat → Option Addr} {L C rb ro : Nat → Nat} {D : Nat → Nat → Int} (h : Deps w a n b o A L C rb ro D) (hb : Below w.heap.size w w') : Deps w' a n b o A L C rb ro D :=
  ⟨h.top, fun i hi => (hb.cell (p := ⟨b, o + i, none⟩) (World.block_lt_of_cell? w _ (h.row i hi))).trans (h.row i hi), h.lies,
    fun i hi j hj => (hb.cell (p := ⟨rb i, ro i + j, none⟩) (World.block_lt_of_cell? w _ (h.num i hi j hj))).trans (h.num i hi j hj)⟩

theorem Flags.below {w w' : World} {a : Option Addr} {m b : Nat} {P : Nat → Bool} (h : Flags w a m b P) (hb : Below w.heap.size w w') : Flags w' a m b P :=
  ⟨h.top, fun i hi => (hb.cell (p := ⟨b, i, none⟩) (World.block_lt_of_cell? w _ (h.flag i hi))).trans (h.flag i hi)⟩

/-- The copy of the lists while it is made: k rows of it lie there. -/
structure Half (w wr : World) (n k : Nat) (A : Nat → Option Addr) (L C rb : Nat → Nat) (D : Nat → Nat → Int) : Prop where
  top : wr.rowIs w.heap.size 31 n (fun i => if i < k then .slice (A i) (L i) (C i) else .slice none 0 0)
  row : ∀ i, i < k → 0 < L i → A i = some ⟨rb i, 0, none⟩ ∧ w.heap.size < rb i ∧ wr.rowIs (rb i) 3 (L i) (fun j => .int .i64 (D i j))
  below : Below w.heap.size w wr

theorem Half.step {w wr w1 : World} {n k : Nat} {A : Nat → Option Addr} {L C rb : Nat → Nat} {D : Nat → Nat → Int} (h : Half w wr n k A L C rb D) {a : Option Addr} {c : Nat}
    (hg : wr.grownBy w1 none) (hr : 0 < L k → a = some ⟨wr.heap.size, 0, none⟩ ∧ w1.rowIs wr.heap.size 3 (L k) (fun j => .int .i64 (D k j))) :
    Half w (w1.setCell ⟨w.heap.size, k, none⟩ (.slice a (L k) c)) n (k + 1) (fun i => if i = k then a else A i) L (fun i => if i = k then c else C i) (fun i => if i = k then wr.heap.size else rb i) D := by
  have hlt := h.top.lt
  refine ⟨((rowIs_grown h.top hg (by simp)).set k _).congr (fun i hi => ?_), fun i hi hL => ?_, (h.below.grown hg h.below.size (fun k hk => by cases hk)).setCell (Nat.le_refl _) _⟩
  · by_cases e : i = k
    · subst e; simp
    · simp only [if_neg e]
      by_cases h2 : i < k
      · rw [if_pos h2, if_pos (by omega)]
      · rw [if_neg h2, if_neg (by omega)]
  · by_cases e : i = k
    · subst e
      simp only [if_true]
      exact ⟨(hr hL).1, hlt, (hr hL).2.setOther (by show wr.heap.size ≠ w.heap.size; omega) _⟩
    · simp only [if_neg e]
      have := h.row i (by omega) hL
      exact ⟨this.1, this.2.1, (rowIs_grown this.2.2 hg (by simp)).setOther (by show rb i ≠ w.heap.size; have := this.2.1; omega) _⟩

theorem Half.done {w wr : World} {n : Nat} {A : Nat → Option Addr} {L C rb : Nat → Nat} {D : Nat → Nat → Int} (h : Half w wr n n A L C rb D) : Deps wr (some ⟨w.heap.size, 0, none⟩) n w.heap.size 0 A L C rb (fun _ => 0) D :=
  ⟨fun _ => rfl, fun i hi => by have := h.top.cell hi; simpa [hi] using this, fun i hi hL => (h.row i hi hL).1, fun i hi j hj => by have := (h.row i hi (by omega)).2.2.cell hj; simpa using this⟩

def CopiedDeps (n : Nat) (L : Nat → Nat) (D : Nat → Nat → Int) (w : World) (e : Ending) (w' : World) : Prop :=
  ∃ a' c' A' C' rb', e = .returned (.slice a' n c') ∧ Deps w' a' n w.heap.size 0 A' L C' rb' (fun _ => 0) D ∧ Below w.heap.size w w'

/-- Each row that is nil has no element. -/
def NilRows (n : Nat) (A : Nat → Option Addr) (L C : Nat → Nat) : Prop := ∀ i, i < n → A i = none → L i = 0 ∧ C i = 0

set_option maxHeartbeats 1000000 in
set_option maxRecDepth 100000 in
theorem cloneDeps_any (a : Option Addr) (n c b o : Nat) (A : Nat → Option Addr) (L C rb ro : Nat → Nat) (D : Nat → Nat → Int) (w : World)
    (hn : n ≤ 1048576) (hnil : a = none → n = 0 ∧ c = 0) (hL : ∀ i, i < n → L i ≤ 1048576) (hd : Deps w a n b o A L C rb ro D) (hnr : NilRows n A L C) :
    Calls Try.prog 10 #[.slice a n c] w fun e w' => CopiedDeps n L D w e w' := by
  have HD : Hid (Deps w a n b o A L C rb ro D) := hd
  have HL : Hid (∀ i, i < n → L i ≤ 1048576) := hL
  have HNR : Hid (NilRows n A L C) := hnr
  clear hd hL hnr
  have hq := fun w => Lib.run_eql_slice_nil (P := Try.prog) w 22 31 a n c 0 0 Try.underlying22
  cases a with
  | none =>
    obtain ⟨rfl, rfl⟩ := hnil rfl
    go_enter Try.func10, Try.ntmps10
    go_wp2
    go_ret
    exact ⟨none, 0, fun _ => none, fun _ => 0, fun _ => 0, rfl, ⟨fun h => absurd h (by omega), fun i hi => absurd hi (by omega), fun i hi => absurd hi (by omega), fun i hi => absurd hi (by omega)⟩, Below.refl _ _⟩
  | some ad =>
    clear hnil
    have hmk := run_make_row' (P := Try.prog) 22 31 (.slice none 0 0) 24 Try.underlying22 Try.info31 rfl .i64 .i64 n (by omega) (by omega)
    go_enter Try.func10, Try.ntmps10
    go_wp2
    go_loopw [4] (fun i wr => ∃ k : Nat, k ≤ n ∧ i = .int .i64 k ∧ Hid (∃ A' C' rb', Half w wr n k A' L C' rb' D)) (fun i _ => n - (intOf i).toNat)
    case atStart => exact ⟨0, Nat.zero_le _, rfl, fun _ => none, fun _ => 0, fun _ => 0, (World.rowIs_made w _ n 31).congr (fun i _ => by simp), fun i hi => absurd hi (by omega), (Below.refl _ _).alloc (Nat.le_refl _) _⟩
    case round =>
      obtain ⟨k, hk, rfl, HR⟩ := hrel
      obtain ⟨A', C', rb', hhalf⟩ := HR.out
      have HH : Hid (Half w wr n k A' L C' rb' D) := hhalf
      clear hhalf HR
      by_cases hlt : k < n
      · have hal := HD.out.top (by omega)
        obtain rfl := Option.some.inj hal
        have hdr := HD.out.below HH.out.below
        have c1 := hdr.row k hlt
        have c2 := HH.out.top.cell hlt
        have f2 := HH.out.top.frozen k
        have hki : (k : Int) < (n : Int) := by omega
        have HDR : Hid (Deps wr (some ⟨b, o, none⟩) n b o A L C rb ro D) := hdr
        have hsz : w.heap.size < wr.heap.size := HH.out.top.lt
        simp at c2
        clear hal hdr
        go_wp2_with fail
        refine (cloneInts_any (A k) (L k) (C k) (rb k) (ro k) (D k) _ (HL.out k hlt) (HNR.out k hlt) (HDR.out.lies k hlt) (HDR.out.num k hlt)).mono ?_
        rintro e w1 ⟨a1, c1', rfl, hr1, hg1⟩
        have c3 : w1.cell? ⟨w.heap.size, k, none⟩ = some (.slice none 0 0) := hg1.cell c2 (by simp)
        have f3 : w1.frozen? ⟨w.heap.size, k, none⟩ = false := ((World.frozen?_of_block (a := ⟨w.heap.size, k, none⟩) (hg1.block w.heap.size hsz (by simp)))).trans f2
        have HS : Hid (Half w (w1.setCell ⟨w.heap.size, k, none⟩ (.slice a1 (L k) c1')) n (k + 1) (fun i => if i = k then a1 else A' i) L (fun i => if i = k then c1' else C' i) (fun i => if i = k then wr.heap.size else rb' i) D) := HH.out.step hg1 hr1
        clear hg1 hr1 c2 f2
        go_wp2
        go_roundw
        case rel => exact ⟨k + 1, by omega, by go_num, _, _, _, HS.out⟩
        case measure => simp [intOf]; omega
      · go_wp2
        go_ret
        obtain rfl : k = n := by omega
        exact ⟨_, k, A', C', rb', rfl, HH.out.done, HH.out.below⟩
end Go.Proofs.Qxb6602874a
