import Derived.Test.Qxb6602790aSort9
namespace Go.Proofs.Qxb6602790a
open Go.RowKit Go.Deep Go.Sort

set_option maxHeartbeats 2000000 in
set_option maxRecDepth 100000 in
theorem insertion_nil (w : World) : Calls Try.prog 50 #[.slice none 0 0, .int .i64 0, .int .i64 0] w fun x w' => x = .returned (.tuple #[]) ∧ w' = w := by
  go_enter Try.func50, Try.ntmps50
  go_wp2
  go_loopw [6] (fun vi wr => vi = .int .i64 1 ∧ wr = w) (fun _ _ => 0)
  case atStart => exact ⟨rfl, rfl⟩
  case round =>
    obtain ⟨rfl, rfl⟩ := hrel
    go_wp2
    go_end0
    exact ⟨rfl, rfl⟩

set_option maxHeartbeats 2000000 in
set_option maxRecDepth 100000 in
theorem pdq_nil (w : World) : Calls Try.prog 46 #[.slice none 0 0, .int .i64 0, .int .i64 0, .int .i64 0] w fun x w' => x = .returned (.tuple #[]) ∧ w' = w := by
  go_enter Try.func46, Try.ntmps46
  go_wp2
  go_loopw [1, 2, 3, 8, 9] (fun v1 v2 _ _ _ wr => v1 = .int .i64 0 ∧ v2 = .int .i64 0 ∧ wr = w) (fun _ _ _ _ _ _ => 0)
  case atStart => exact ⟨rfl, rfl, rfl⟩
  case round =>
    obtain ⟨rfl, rfl, rfl⟩ := hrel
    go_wp2_with fail
    refine (insertion_nil _).mono ?_
    rintro x w2 ⟨rfl, rfl⟩
    go_wp2
    (try simp only [Exit.inBlock, Exit.then])
    refine bodyPost_ret (results_none rfl _ _ _) rfl ?_
    exact ⟨rfl, rfl⟩

set_option maxHeartbeats 2000000 in
set_option maxRecDepth 100000 in
/-- slices.Sort of a nil slice. -/
theorem sort_nil (w : World) : Calls Try.prog 42 #[.slice none 0 0] w fun x w' => x = .returned (.tuple #[]) ∧ w' = w := by
  have hb := hid (bitsLen_w 0 (by omega))
  go_enter Try.func42, Try.ntmps42
  go_wp2_with fail
  refine (hb.out _).mono ?_
  rintro x w2 ⟨rfl, rfl⟩
  go_wp2_with fail
  refine (pdq_nil _).mono ?_
  rintro x w3 ⟨rfl, rfl⟩
  go_wp2
  go_end0
  exact ⟨rfl, rfl⟩

/-- What slices.Sort leaves: the same values, in order. -/
def Sorted (d d' : Array Int) : Prop := d'.size = d.size ∧ SortedIn ltInt 0 d'.size d' ∧ ∀ z, (∃ j, j < d'.size ∧ d'[j]! = z) ↔ ∃ j, j < d.size ∧ d[j]! = z

theorem mem_get (d : Array Int) (z : Int) : (∃ j, j < d.size ∧ d[j]! = z) ↔ z ∈ d.toList := by
  rw [List.mem_iff_getElem]
  constructor
  · rintro ⟨j, hj, e⟩
    exact ⟨j, by simpa using hj, by rw [getElem!_pos d j hj] at e; simpa using e⟩
  · rintro ⟨j, hj, e⟩
    have hj' : j < d.size := by simpa using hj
    exact ⟨j, hj', by rw [getElem!_pos d j hj']; simpa using e⟩

theorem sorted_of (d d' : Array Int) (h : PermIn 0 d.size d d') (hs : SortedIn ltInt 0 d.size d') : Sorted d d' := by
  refine ⟨h.1, by rw [h.1]; exact hs, fun z => ?_⟩
  rw [mem_get, mem_get]
  have hp := h.2.2
  have e1 : d'.extract 0 d.size = d' := by rw [← h.1]; simp
  have e2 : d.extract 0 d.size = d := by simp
  rw [e1, e2] at hp
  exact hp.mem_iff

set_option maxHeartbeats 2000000 in
set_option maxRecDepth 100000 in
theorem sort_w (w0 : World) (b C off cap n : Nat) (d : Array Int) (w : World) (h : SAt w0 b C off d w) (hn : d.size = n) (hsz : n < 4611686018427387904) :
    Calls Try.prog 42 #[.slice (some ⟨b, off, none⟩) n cap] w fun x w' => x = .returned (.tuple #[]) ∧ ∃ d', Sorted d d' ∧ SAt w0 b C off d' w' := by
  have hb := hid (bitsLen_w n hsz)
  have hk := bitLen_small n hsz
  have K := hid (pdq_w w0 b C off cap n hsz (n + 1) 0 n (Lib.bitLen n) d w (by omega) h hn (Nat.zero_le _) (Nat.le_refl _) (by omega) (Or.inl rfl))
  have HN := hid hn
  clear h hn
  go_enter Try.func42, Try.ntmps42
  go_wp2_with fail
  refine (hb.out _).mono ?_
  rintro x w2 ⟨rfl, rfl⟩
  go_wp2_with fail
  refine K.out.mono ?_
  rintro x w3 ⟨rfl, d', h1, h2, h3⟩
  have H3 : Hid (∃ d', Sorted d d' ∧ SAt w0 b C off d' w3) := ⟨d', sorted_of d d' (by rw [HN.out]; exact h1) (by rw [HN.out]; exact h2), h3⟩
  clear h1 h2 h3
  go_wp2
  go_end0
  exact ⟨rfl, H3.out⟩
end Go.Proofs.Qxb6602790a
