import Derived.Test.Qxb6602790aSort0
import Derived.Shelf.SlicesE.Compact
import Derived.Shelf.SlGeneric
import Derived.Ground.SlgnProg
namespace Go.Proofs.Qxb6602790a
open Go.RowKit Go.Deep Go.Sort Go.Shelf Go.Lib

shelf_lay_g SlLaysE.n43 Slgn 43 at Try 43 as Try.lays43

theorem SAt.holds {w0 w : World} {b C off : Nat} {d : Array Int} (h : SAt w0 b C off d w) : Holds (Value.int .i32) w b off d := fun _ hj => ⟨h.cell hj, h.frozen _⟩

theorem SAt.put {w0 w : World} {b C off : Nat} {d d' : Array Int} (h : SAt w0 b C off d w) (hs : d'.size = d.size) (q : Nat) : SAt w0 b C off d' (putRow (Value.int .i32) (Sort.ahead w q) b off d') := by
  obtain ⟨f, ⟨c, hb, hC, hc⟩, hoff, hf⟩ := h.row
  have hb' : (putRow (Value.int .i32) (Sort.ahead w q) b off d').heap[b]? = some (.cells (putCells (Value.int .i32) off d' c) 21 (0, 0)) := by
    simp only [putRow, mapBlock, heap_ahead, Array.getElem?_modify, if_true, hb, Option.map_some, onCells]
  refine ⟨⟨fun i => if off ≤ i ∧ i < off + d'.size then .int .i32 d'[i - off]! else f i, ⟨_, hb', by simp [putCells, hC], fun i hi => ?_⟩, by omega, fun i hi => ?_⟩, ⟨h.grown.os, h.grown.tape, h.grown.output, by simp; exact h.grown.size, fun k hk hn => ?_⟩⟩
  · simp only [putCells, Array.getElem?_mapIdx, hc i hi, Option.map_some]
  · show (if off ≤ off + i ∧ off + i < off + d'.size then Value.int .i32 d'[off + i - off]! else f (off + i)) = _
    rw [if_pos ⟨by omega, by omega⟩, show off + i - off = i by omega]
  · have hne : b ≠ k := fun e => hn (by rw [e])
    rw [← h.grown.block k hk hn]
    simp only [putRow, mapBlock, heap_ahead, Array.getElem?_modify, if_neg hne]

/-- slices.Compact at int32. -/
theorem compact_w (w0 : World) (b C off cap : Nat) (d : Array Int) (w : World) (h : SAt w0 b C off d w) (hsz : d.size ≤ 9223372036854775807) (hcap : d.size ≤ cap) :
    Calls Try.prog 43 #[.slice (some ⟨b, off, none⟩) d.size cap] w fun x w' => x = .returned (.slice (some ⟨b, off, none⟩) (compactUpTo d d.size).length cap) ∧
      ∃ d' : Array Int, d'.size = d.size ∧ (∀ i, i < (compactUpTo d d.size).length → d'[i]! = (compactUpTo d d.size).getD i 0) ∧ SAt w0 b C off d' w' := by
  have hle : (compactUpTo d d.size).length ≤ d.size := by
    unfold compactUpTo
    rw [List.length_map]
    exact Nat.le_trans (List.length_filter_le _ _) (by simp)
  have c := AnyE.slices_Compact Try.lays43 (Value.int .i32) (fun _ => rfl) (EqlAt.intD _ _ .i32) (NeqAt.intD _ _ .i32) (0 : Int) Try.zeroValue21 b off cap d w h.holds hsz hcap
  refine c.mono ?_
  rintro x w' ⟨rfl, q, rfl⟩
  refine ⟨rfl, _, ?_, ?_, h.put ?_ q⟩
  · simp; omega
  · intro i hi
    rw [getElem!_pos _ i (by simp; omega)]
    simp only [List.getElem_toArray]
    rw [List.getElem_append_left hi, List.getD_eq_getElem?_getD, List.getElem?_eq_getElem hi]
    rfl
  · simp; omega

/-- What is kept of a sorted row: each of its values once, rising. -/
theorem kept_mem (d : Array Int) (z : Int) : z ∈ compactUpTo d d.size ↔ ∃ j, j < d.size ∧ d[j]! = z := by
  unfold compactUpTo
  simp only [List.mem_map, List.mem_filter, List.mem_range]
  constructor
  · rintro ⟨j, ⟨hj, _⟩, e⟩
    exact ⟨j, hj, e⟩
  · rintro ⟨j, hj, e⟩
    induction j with
    | zero => exact ⟨0, ⟨hj, by simp [keeps]⟩, e⟩
    | succ j ih =>
      by_cases h : d[j + 1]! = d[j]!
      · exact ih (by omega) (by rw [← h]; exact e)
      · exact ⟨j + 1, ⟨hj, by simp [keeps]; exact h⟩, e⟩
theorem kept_rising (d : Array Int) (hs : SortedIn ltInt 0 d.size d) : (compactUpTo d d.size).Pairwise (· < ·) := by
  unfold compactUpTo
  rw [List.pairwise_map]
  have hr : (List.range d.size).Pairwise (fun i j => i < j ∧ j < d.size) := by
    rw [List.pairwise_iff_getElem]
    intro i j hi hj hij
    simp at hi hj ⊢
    omega
  refine (hr.filter (keeps d)).imp_of_mem ?_
  intro p q hp hq hpq
  have hkq : keeps d q = true := (List.mem_filter.1 hq).2
  have hne : d[q]! ≠ d[q - 1]! := by
    match q, hpq with
    | k + 1, _ => simpa [keeps] using hkq
  have h1 := hs (q - 1) q (by omega) (by omega) hpq.2
  have h2 : d[p]! ≤ d[q - 1]! := by
    rcases Nat.eq_or_lt_of_le (show p ≤ q - 1 by omega) with e | e
    · rw [e]; exact Int.le_refl _
    · have := hs p (q - 1) (by omega) e (by omega)
      simp [ltInt] at this
      exact this
  simp [ltInt] at h1
  omega
end Go.Proofs.Qxb6602790a
