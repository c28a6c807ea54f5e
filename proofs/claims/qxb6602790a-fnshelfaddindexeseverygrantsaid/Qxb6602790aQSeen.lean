import Derived.Test.Qxb6602790aQStr
import Derived.OwnWalk
import Derived.Maps.AppendAt
import Derived.Laws.OwnMore
namespace Go.Proofs.Qxb6602790a
open Go.RowKit Go.Deep QLaw

theorem Try.info9 : (Try.prog.info? 9).map (fun i => (i.zero, i.size, i.bytes)) = some (some (.string ByteArray.empty), 1, 16) := by kernel_rfl

/-- The row in which the law lists what has been numbered. -/
def Ord (w : World) (B cap : Nat) (ord : List ByteArray) : Prop := w.ownsRow B 9 1 (.slice (some ⟨B, 0, none⟩) ord.length cap) ord.length (ord.map Value.string)

theorem getD_eq {ss : List ByteArray} {k : Nat} (h : k < ss.length) : ss.getD k ByteArray.empty = ss[k] := by
  rw [List.getD_eq_getElem?_getD, List.getElem?_eq_getElem h]; rfl

theorem Ord.strs {w : World} {B cap : Nat} {ord : List ByteArray} (h : Ord w B cap ord) : Strs w (some ⟨B, 0, none⟩) ord.length ord :=
  ⟨rfl, fun _ _ => ⟨B, 0, rfl, fun i hi => by
    rw [Nat.zero_add, World.ownsRow.cellAt h i (by omega), List.getElem?_map, List.getElem?_eq_getElem hi, getD_eq hi]; rfl⟩⟩

theorem Strs.kept {w w' : World} {p : Option Addr} {n : Nat} {ss : List ByteArray} {row : Option Nat} (h : Strs w p n ss) (hg : w.grownBy w' row) (hp : ∀ b off, p = some ⟨b, off, none⟩ → some b ≠ row) : Strs w' p n ss :=
  ⟨h.len, fun j hj => by
    obtain ⟨b, off, e, hc⟩ := h.at_ j hj
    exact ⟨b, off, e, fun i hi => by
      rw [World.cell?_of_block (w := w) (hg.block b (World.block_lt_of_cell? w _ (hc i hi)) (hp b off e))]
      exact hc i hi⟩⟩

theorem star_bytes : star.toList = [42] := by rw [Lib.toList_data]; rfl
theorem one_str (s : ByteArray) : ∀ u ∈ [Value.string s], u.oneCell' = true := by intro u hu; simp at hu; subst hu; rfl

set_option maxHeartbeats 4000000 in
set_option maxRecDepth 100000 in
theorem firstSeen_w (B cap : Nat) (ord : List ByteArray) (p : Option Addr) (n c : Nat) (ss : List ByteArray) (w : World) (ho : Ord w B cap ord) (hs : Strs w p n ss) (hp : ∀ b off, p = some ⟨b, off, none⟩ → b ≠ B)
    (hroom : ord.length + n ≤ cap) (hcap : cap ≤ 8192) :
    Calls Try.prog 11 #[.slice (some ⟨B, 0, none⟩) ord.length cap, .slice p n c] w fun e w' =>
      e = .returned (.slice (some ⟨B, 0, none⟩) (fs ord ss).length cap) ∧ Ord w' B cap (fs ord ss) ∧ w.grownBy w' (some B) := by
  obtain ⟨i0, hinf, hi0⟩ := Option.map_eq_some_iff.1 Try.info9
  simp only [Prod.mk.injEq] at hi0
  have hz1 := hi0.2.1
  clear hi0
  have H := hid hs
  have HO0 := hid ho
  have HP := hid hp
  have HL := hid hs.len
  clear hs ho hp
  generalize hL : ord.length = L at hroom
  have HLL := hid hL
  clear hL
  go_enter Try.func11, Try.ntmps11
  go_wp2
  go_loopw [0, 9] (fun v0 vk wr => ∃ k m : Nat, vk = .int .i64 k ∧ k ≤ n ∧ v0 = .slice (some ⟨B, 0, none⟩) m cap ∧ m ≤ L + k ∧ Hid (m = (fs ord (ss.take k)).length) ∧ Hid (Ord wr B cap (fs ord (ss.take k))) ∧ Hid (w.grownBy wr (some B))) (fun _ vk _ => n - (intOf vk).toNat)
  case atStart => exact ⟨0, L, rfl, Nat.zero_le _, rfl, by omega, HLL.out.symm, HO0, grownBy_refl _ _⟩
  case round =>
    obtain ⟨k, m, rfl, hk, rfl, hm, HM, HO, HG⟩ := hrel
    by_cases hlt : k < n
    · have HST : Hid (Strs wr p n ss) := H.out.kept HG.out (fun b off e => by have := HP.out b off e; simpa using this)
      obtain ⟨b, off, hpe, hc⟩ := HST.out.at_ k hlt
      subst hpe
      have hcell := hc k hlt
      clear hc
      have HT : Hid (fs ord (ss.take (k + 1)) = QLaw.step (fs ord (ss.take k)) (ss.getD k ByteArray.empty)) := by
        show _ = _
        rw [fs_take ord ss k (by rw [HL.out]; exact hlt), getD_eq (by rw [HL.out]; exact hlt)]
      generalize ss.getD k ByteArray.empty = s at hcell HT
      cases hb : (s.toList == star.toList) with
      | true =>
        have HE : Hid (fs ord (ss.take (k + 1)) = fs ord (ss.take k)) := by show _ = _; rw [HT.out, step_old (.inl ((beq_bytes _ _).1 hb))]
        have hb2 : (s.toList == [42]) = true := by rw [← star_bytes]; exact hb
        clear hb HT
        go_wp2
        go_roundw
        case rel => exact ⟨k + 1, m, by go_num, by omega, rfl, by omega, by rw [HE.out]; exact HM, by rw [HE.out]; exact HO, HG⟩
        case measure => simp [intOf]; omega
      | false =>
        have HNS := hid ((beq_bytes_false _ _).1 hb)
        have hb2 : (s.toList == [42]) = false := by rw [← star_bytes]; exact hb
        clear hb
        have C := hid (index_w (some ⟨B, 0, none⟩) m cap (fs ord (ss.take k)) s wr (by rw [HM.out]; exact HO.out.strs) (by omega))
        go_wp2_with fail
        refine C.out.mono ?_
        rintro e w1 ⟨⟨r, rfl, hf⟩, rfl⟩
        rcases hf with ⟨hr, hmem⟩ | ⟨rfl, hmem⟩
        · have HE : Hid (fs ord (ss.take (k + 1)) = fs ord (ss.take k)) := by show _ = _; rw [HT.out, step_old (.inr hmem)]
          clear hmem
          have hrz : ¬ r < 0 := by omega
          go_wp2
          go_roundw
          case rel => exact ⟨k + 1, m, by go_num, by omega, rfl, by omega, by rw [HE.out]; exact HM, by rw [HE.out]; exact HO, HG⟩
          case measure => simp [intOf]; omega
        · have HE : Hid (fs ord (ss.take (k + 1)) = fs ord (ss.take k) ++ [s]) := by show _ = _; rw [HT.out, step_new (by rintro (h | h); exact HNS.out h; exact hmem h)]
          clear hmem HT
          have HOW : Hid (w1.ownsRow B 9 1 (.slice (some ⟨B, 0, none⟩) m cap) m ((fs ord (ss.take k)).map Value.string)) := by have := HO.out; rw [Ord, ← HM.out] at this; exact this
          go_wp2_with (at_builtin; refine wpList_append_fits _ rfl (.tmp 19) (.tmp 21) 22 rfl B 9 i0 1 Try.underlying22 hinf hz1 B m cap _ rfl (HOW.out.alloc _) ⟨w1.heap.size, 0, none⟩ 1 1 [.string s] rfl rfl (cell_one_new _ _ _) (one_str s) (by omega) ?_)
          intro w4 hown4 hgrow4
          have HO4 : Hid (Ord w4 B cap (fs ord (ss.take (k + 1)))) := by
            show Ord _ _ _ _
            rw [HE.out]
            unfold Ord
            rw [List.length_append, List.map_append, ← HM.out]
            exact hown4
          have HG4 : Hid (w.grownBy w4 (some B)) := grownBy_trans (grownBy_alloc' HG.out _) hgrow4
          have HM4 : Hid (m + 1 = (fs ord (ss.take (k + 1))).length) := by show _ = _; rw [HE.out, List.length_append, HM.out]; rfl
          clear hown4 hgrow4
          go_wp2
          go_roundw
          case rel => exact ⟨k + 1, m + 1, by go_num, by omega, rfl, by omega, HM4, HO4, HG4⟩
          case measure => simp [intOf]; omega
    · go_wp2
      go_ret
      have e : ss.take k = ss := List.take_of_length_le (by rw [HL.out]; omega)
      have h1 := HM.out
      have h2 := HO.out
      rw [e] at h1 h2
      exact ⟨by rw [← h1]; rfl, h2, HG.out⟩
end Go.Proofs.Qxb6602790a
