import Derived.Test.Qxb6602790aSLaw
import Derived.Test.Qxb6602790aQBytes
import Derived.Maps.OwnRows
import Derived.DeepKeys4
import Derived.Deep.AppendLies
namespace Go.Proofs.Qxb6602790a
open Go.RowKit Go.Deep Go.MapKept SLaw
open Go.ChangeMaps (setBlock)

theorem laidOutT : laidOutB Try.prog = true := by kernel_rfl
theorem keyed95 : Maps.Keyed Try.prog 95 := Maps.Keyed.of_law (deep_law_laid laidOutT (m := 2) (by omega) (of_decide_eq_true (by kernel_rfl)) (by kernel_rfl) (by kernel_rfl))
theorem keyedS : Maps.Keyed Try.prog 9 := Maps.string_keyed Try.underlying9

/-- The key in the listed index, the key in the unlisted one. -/
def kv2 (k : K) : Value := .agg #[.string k.1, .string k.2]
def kv1 (k : K) : Value := .string k.1
def ok2 (k : K) : Prop := k.1.size ≤ 1048576 ∧ k.2.size ≤ 1048576
def ok1 (k : K) : Prop := k.1.size ≤ 1048576 ∧ k.2 = ByteArray.empty

/-- WHAT THE LAWS ASK OF THE KEYS' SPELLING. -/
structure Spells (t kt : TypeId) (V : K → Value) (ok : K → Prop) : Prop where
  under : Try.prog.underlying t = some (.map kt 93)
  keyed : Maps.Keyed Try.prog kt
  key : ∀ k, ok k → ∃ l, keyOf Try.prog kt (V k) = some l
  inj : ∀ k k', ok k → ok k' → V k = V k' → k = k'

theorem spells1 : Spells 85 9 kv1 ok1 where
  under := Try.underlying85
  keyed := keyedS
  key k h := ⟨.string k.1.data.toList, by
    have : k.1.size ≤ maxLen := by have := h.1; simp only [maxLen]; omega
    simp [keyOf, Try.underlying9, mapKey, kv1, this]⟩
  inj k k' h h' e := by
    simp only [kv1, Value.string.injEq] at e
    exact Prod.ext e (h.2.trans h'.2.symm)

theorem keyType95 : Try.prog.keyType 95 = true := by kernel_rfl
theorem cells95 : Try.prog.cellsOf 95 = 2 := by kernel_rfl
theorem isStruct95 : ∃ fs, Try.prog.underlying 95 = some (.struct fs) := ⟨_, Try.underlying95⟩
theorem keyLits95 (a b : ByteArray) (ha : a.size ≤ maxLen) (hb : b.size ≤ maxLen) : ∃ ls, Try.prog.keyLits (Try.prog.types.size + 1) 95 [.string a, .string b] = some ls := by
  have h9 := Try.underlying9
  have h95 := Try.underlying95
  have hc : Try.prog.cellsOf 9 = 1 := by kernel_rfl
  have hs : ∃ n, Try.prog.types.size + 1 = n + 2 := ⟨_, rfl⟩
  obtain ⟨n, hn⟩ := hs
  rw [hn]
  simp [Program.keyLits, h95, h9, hc, ha, hb, cells95]

theorem spells2 : Spells 84 95 kv2 ok2 where
  under := Try.underlying84
  keyed := keyed95
  key k h := by
    have h1 : k.1.size ≤ maxLen := by have := h.1; simp only [maxLen]; omega
    have h2 : k.2.size ≤ maxLen := by have := h.2; simp only [maxLen]; omega
    obtain ⟨ls, hl⟩ := keyLits95 k.1 k.2 h1 h2
    obtain ⟨fs, hu⟩ := isStruct95
    have hf : (Value.agg #[.string k.1, .string k.2]).formed Try.prog 95 = true := by simp [Value.formed, hu, cells95]
    exact ⟨.string (keyBytes ls), by
      simp [keyOf, hu, kv2, keyType95, hf, Value.cells]
      exact ⟨ls, hl, rfl⟩⟩
  inj k k' h h' e := by
    simp only [kv2, Value.agg.injEq] at e
    have e1 := congrArg Array.toList e
    simp only [List.cons.injEq, Value.string.injEq, and_true] at e1
    exact Prod.ext e1.1 e1.2

/-- The cells of a row of grantRefs. -/
def refCells (rs : List R) : List Value := rs.flatMap fun r => [.int .i64 (r.1 : Int), .int .i64 (r.2 : Int)]
theorem refCells_push (rs : List R) (r : R) : refCells (rs ++ [r]) = refCells rs ++ [.int .i64 (r.1 : Int), .int .i64 (r.2 : Int)] := by simp [refCells]
theorem refCells_get : ∀ (rs : List R) (i : Nat) (r : R), rs[i]? = some r → (refCells rs)[2 * i]? = some (.int .i64 (r.1 : Int)) ∧ (refCells rs)[2 * i + 1]? = some (.int .i64 (r.2 : Int))
  | [], i, r, h => by simp at h
  | x :: rs, 0, r, h => by
    simp at h
    subst h
    exact ⟨rfl, rfl⟩
  | x :: rs, i + 1, r, h => by
    have := refCells_get rs i r (by simpa using h)
    exact ⟨this.1, this.2⟩

/-- ONE INDEX OF THE SHELF, its entries written out: block mb; each key's row has the colour c + 2 i, i the key's place. -/
structure Ents (w : World) (V : K → Value) (ok : K → Prop) (B mb : Nat) (col : Nat → Nat) (c : Nat) (L : List (K × R)) (ks : List K) (es : Array MapEntry) (clock : Nat) : Prop where
  seen : Seen L ks
  oks : ∀ k ∈ ks, ok k
  heap : w.heap[mb]? = some (.map es clock)
  stamped : Stamped es clock
  size : es.size = ks.length
  row : ∀ i k, ks[i]? = some k → ∃ e, es[i]? = some e ∧ e.key = V k ∧ w.ownsRow B 100 2 e.val (refs L k).length (refCells (refs L k)) ∧ ∀ b, e.val.ownBlock = some b → col b = c + 2 * i
/-- .. not written out. -/
def Idx (w : World) (V : K → Value) (ok : K → Prop) (B mb : Nat) (col : Nat → Nat) (c : Nat) (L : List (K × R)) (ks : List K) : Prop := ∃ es clock, Ents w V ok B mb col c L ks es clock

/-- Where the key k stands or will stand, and what the index holds there. -/
def Slot (ks : List K) (es : Array MapEntry) (clock i : Nat) (k : K) (v : Value) (st : Nat) : Prop :=
  (ks[i]? = some k ∧ ∃ e, es[i]? = some e ∧ e.val = v ∧ e.born = st) ∨ (k ∉ ks ∧ i = ks.length ∧ v = .slice none 0 0 ∧ st = clock)
/-- The entries once v is laid there. -/
def upd (V : K → Value) (es : Array MapEntry) (clock i : Nat) (k : K) (v : Value) : Array MapEntry × Nat :=
  if i < es.size then (es.modify i (fun e => { e with val := v }), clock) else (es.push ⟨V k, v, clock⟩, clock + 1)

section
variable {w : World} {t kt : TypeId} {V : K → Value} {ok : K → Prop} {B mb : Nat} {col : Nat → Nat} {c : Nat} {L : List (K × R)} {ks : List K} {es : Array MapEntry} {clock : Nat}

theorem Ents.keys (h : Ents w V ok B mb col c L ks es clock) (S : Spells t kt V ok) : ∀ e ∈ es.toList, ∃ l, keyOf Try.prog kt e.key = some l := fun e he => by
  obtain ⟨i, hi, e1⟩ := List.getElem_of_mem he
  have hi2 : i < ks.length := by rw [← h.size]; simpa using hi
  obtain ⟨e', h1, h2, _⟩ := h.row i ks[i] (List.getElem?_eq_getElem hi2)
  have : e' = e := by
    rw [Array.getElem?_eq_getElem (by simpa using hi)] at h1
    injection h1 with h1
    rw [← h1, ← e1]
    simp
  subst this
  rw [h2]
  exact S.key _ (h.oks _ (List.getElem_mem hi2))

/-- What the search finds. -/
theorem Ents.find (h : Ents w V ok B mb col c L ks es clock) (S : Spells t kt V ok) {k : K} (hk : ok k) (wx : World) :
    (k ∉ ks ∧ (Instr.findKey kt (V k) es.toList).run Try.prog wx = .ok none wx ∧ ∀ e ∈ es.toList, e.key ≠ V k) ∨
    ∃ j e, ks[j]? = some k ∧ es[j]? = some e ∧ e.key = V k ∧ (Instr.findKey kt (V k) es.toList).run Try.prog wx = .ok (some (j, e.val)) wx := by
  obtain ⟨l, hl⟩ := S.key k hk
  rcases S.keyed.find wx hl es.toList (h.keys S) with ⟨h1, h2⟩ | ⟨j, e0, h1, h2, h3⟩
  · refine .inl ⟨fun hm => ?_, h1, h2⟩
    obtain ⟨i, hi⟩ := List.mem_iff_getElem?.1 hm
    obtain ⟨e, he, hek, _⟩ := h.row i k hi
    exact h2 e (List.mem_of_getElem? (by simpa using he)) hek
  · have hj : es[j]? = some e0 := by simpa using h2
    have hjl : j < ks.length := by rw [← h.size]; exact (Array.getElem?_eq_some_iff.1 hj).1
    obtain ⟨e1, he1, hek, _⟩ := h.row j ks[j] (List.getElem?_eq_getElem hjl)
    rw [hj] at he1
    injection he1 with he1
    subst he1
    have : ks[j] = k := S.inj _ _ (h.oks _ (List.getElem_mem hjl)) hk (hek.symm.trans h3)
    exact .inr ⟨j, e0, by rw [List.getElem?_eq_getElem hjl, this], hj, h3, h1⟩

theorem Ents.kept {w' : World} (h : Ents w V ok B mb col c L ks es clock) (hmb : w'.heap[mb]? = w.heap[mb]?) (hr : ∀ b i, col b = c + 2 * i → b < w.heap.size → b ≠ mb → w'.heap[b]? = w.heap[b]?) : Ents w' V ok B mb col c L ks es clock := by
  refine ⟨h.seen, h.oks, hmb.trans h.heap, h.stamped, h.size, fun i k hk => ?_⟩
  obtain ⟨e, h1, h2, h3, h4⟩ := h.row i k hk
  refine ⟨e, h1, h2, ?_, h4⟩
  refine ⟨h3.1, ?_⟩
  rcases h3.2 with h5 | ⟨g, cap, cur, hv, hb, hg, rest⟩
  · exact .inl h5
  · refine .inr ⟨g, cap, cur, hv, hb, ?_, rest⟩
    rw [hr g i (h4 g (by rw [hv]; rfl)) (Array.getElem?_eq_some_iff.1 hg).1 (fun e => by rw [e, h.heap] at hg; cases hg)]
    exact hg

/-- The entries once 'mapEntry' has been there. -/
def entd (V : K → Value) (es : Array MapEntry) (clock i : Nat) (k : K) : Array MapEntry × Nat :=
  if i < es.size then (es, clock) else (es.push ⟨V k, .slice none 0 0, clock⟩, clock + 1)

/-- WHAT THE OPERATIONS AT THE KEY k DO. -/
structure AtKey (t : TypeId) (V : K → Value) (mb : Nat) (es : Array MapEntry) (clock i : Nat) (k : K) (v : Value) (st : Nat) : Prop where
  look : ∀ wx : World, wx.heap[mb]? = some (.map es clock) → (Instr.lookup t (.map (some mb)) (V k) false).run Try.prog wx = .ok v wx
  update : ∀ (wx : World) (v2 : Value), wx.heap[mb]? = some (.map es clock) → (Instr.mapUpdate t (.map (some mb)) (V k) v2).run Try.prog wx = .ok () (setBlock wx mb (.map (upd V es clock i k v2).1 (upd V es clock i k v2).2))
  entry : ∀ wx : World, wx.heap[mb]? = some (.map es clock) → (Instr.mapEntry t (.map (some mb)) (V k)).run Try.prog wx = .ok (.tuple #[v, .int .i64 (st : Int)]) (setBlock wx mb (.map (entd V es clock i k).1 (entd V es clock i k).2))
  store : ∀ (wx : World) (v2 : Value), wx.heap[mb]? = some (.map (entd V es clock i k).1 (entd V es clock i k).2) → (Instr.entryStore t (.map (some mb)) (.int .i64 (st : Int)) v2).run Try.prog wx = .ok () (setBlock wx mb (.map (upd V es clock i k v2).1 (upd V es clock i k v2).2))

theorem modify_self {es : Array MapEntry} {j : Nat} {e : MapEntry} (hj : es[j]? = some e) (f : MapEntry → MapEntry) (hf : f e = e) : es.modify j f = es := by
  apply Array.ext
  · simp
  · intro i h1 h2
    rw [Array.getElem_modify]
    split
    · rename_i hij
      subst hij
      rw [Array.getElem?_eq_getElem h2] at hj
      injection hj with hj
      rw [hj, hf]
    · rfl
theorem modify_congr {es : Array MapEntry} {j : Nat} {e : MapEntry} (hj : es[j]? = some e) (f g : MapEntry → MapEntry) (hf : f e = g e) : es.modify j f = es.modify j g := by
  apply Array.ext
  · simp
  · intro i h1 h2
    rw [Array.getElem_modify, Array.getElem_modify]
    split
    · rename_i hij
      subst hij
      rw [Array.getElem?_eq_getElem (by simpa using h2)] at hj
      injection hj with hj
      rw [hj, hf]
    · rfl
theorem push_modify (es : Array MapEntry) (e : MapEntry) (f : MapEntry → MapEntry) : (es.push e).modify es.size f = es.push (f e) := by
  apply Array.ext
  · simp
  · intro i h1 h2
    rw [Array.getElem_modify]
    split
    · rename_i hij
      subst hij
      simp
    · rename_i hij
      have : i < es.size := by simp at h2; omega
      simp [Array.getElem_push_lt this]
/-- The entry that bears a stamp is found by it. -/
theorem find_born {es : Array MapEntry} {clock : Nat} (hs : Stamped es clock) {j : Nat} {e : MapEntry} (hj : es[j]? = some e) : es.findIdx? (fun x => (x.born : Int) == ((e.born : Nat) : Int)) = some j := by
  obtain ⟨_, hn, _⟩ := (stamped_iff es clock).1 hs
  obtain ⟨hjl, he⟩ := Array.getElem?_eq_some_iff.1 hj
  rw [Array.findIdx?_eq_some_iff_getElem]
  refine ⟨hjl, by simp [he], fun i hi => ?_⟩
  have hne : es[i].born ≠ e.born := fun e1 => by
    have h1 := (List.pairwise_iff_getElem.1 hn) i j (by simp; omega) (by simpa using hjl) hi
    simp at h1
    exact h1 (by rw [e1, he])
  simp
  omega

theorem Ents.at_ (h : Ents w V ok B mb col c L ks es clock) (S : Spells t kt V ok) {k : K} (hk : ok k) :
    ∃ i v st, Slot ks es clock i k v st ∧ AtKey t V mb es clock i k v st ∧ w.ownsRow B 100 2 v (refs L k).length (refCells (refs L k)) ∧ ∀ b, v.ownBlock = some b → col b = c + 2 * i := by
  obtain ⟨l, hl⟩ := S.key k hk
  have hz : ∀ wx : World, (zeroValue 93).run Try.prog wx = .ok (.slice none 0 0) wx := fun wx => Try.zeroValue93 wx
  rcases h.find S hk w with ⟨hn, _, _⟩ | ⟨j, e, h1, h2, h3, _⟩
  · have hf : ∀ wx, (Instr.findKey kt (V k) es.toList).run Try.prog wx = .ok none wx := fun wx => by
      rcases h.find S hk wx with ⟨_, h5, _⟩ | ⟨j, _, h5, _⟩
      · exact h5
      · exact absurd (List.mem_of_getElem? h5) hn
    have hu : ∀ v2, upd V es clock ks.length k v2 = (es.push ⟨V k, v2, clock⟩, clock + 1) := fun v2 => by unfold upd; rw [if_neg (by rw [h.size]; omega)]
    have he : entd V es clock ks.length k = (es.push ⟨V k, .slice none 0 0, clock⟩, clock + 1) := by unfold entd; rw [if_neg (by rw [h.size]; omega)]
    refine ⟨ks.length, .slice none 0 0, clock, .inr ⟨hn, rfl, rfl, rfl⟩, ⟨fun wx hb => ?_, fun wx v2 hb => ?_, fun wx hb => ?_, fun wx v2 hb => ?_⟩, ?_, fun b e => by cases e⟩
    · simp [Instr.lookup, run_underlying S.under, MapKept.run_getObj_map hb, S.keyed.check wx _ hl, hf, hz, Result.andThen]
    · rw [hu]
      simp [Instr.mapUpdate, run_underlying S.under, MapKept.run_getObj_map hb, S.keyed.check wx false hl, hf, MapKept.run_setObj_map _ hb, Result.andThen, setBlock]
    · rw [he]
      simp [Instr.mapEntry, run_underlying S.under, MapKept.run_getObj_map hb, S.keyed.check wx false hl, hf, hz, MapKept.run_setObj_map _ hb, Result.andThen, setBlock, goInt]
    · rw [hu]
      rw [he] at hb
      have hfb : (es.push ⟨V k, .slice none 0 0, clock⟩).findIdx? (fun x => (x.born : Int) == ((clock : Nat) : Int)) = some es.size := by
        have hs2 : Stamped (es.push ⟨V k, .slice none 0 0, clock⟩) (clock + 1) := stamped_push h.stamped (by
          rcases h.find S hk w with ⟨_, _, h5⟩ | ⟨j, _, h5, _⟩
          · exact h5
          · exact absurd (List.mem_of_getElem? h5) hn)
        exact find_born hs2 (j := es.size) (e := ⟨V k, .slice none 0 0, clock⟩) (by simp)
      simp [Instr.entryStore, MapKept.run_getObj_map hb, asInt, asIntOf, hfb, MapKept.run_setObj_map _ hb, Result.andThen, setBlock, push_modify]
    · rw [h.seen.refs_none hn]
      exact World.ownsRow_nil _ _ _ _
  · have hjl : j < es.size := (Array.getElem?_eq_some_iff.1 h2).1
    have hf : ∀ wx, (Instr.findKey kt (V k) es.toList).run Try.prog wx = .ok (some (j, e.val)) wx := fun wx => by
      rcases h.find S hk wx with ⟨h5, _, _⟩ | ⟨j', e', h5, h6, _, h7⟩
      · exact absurd (List.mem_of_getElem? h1) h5
      · have hjj : j' = j := by
          have hn := h.seen.nodup
          obtain ⟨a1, a2⟩ := List.getElem?_eq_some_iff.1 h1
          obtain ⟨b1, b2⟩ := List.getElem?_eq_some_iff.1 h5
          exact (List.getElem_inj hn).1 (b2.trans a2.symm)
        subst hjj
        have h8 : e = e' := Option.some.inj (h2.symm.trans h6)
        rw [h8]
        exact h7
    have hu : ∀ v2, upd V es clock j k v2 = (es.modify j (fun e => { e with val := v2 }), clock) := fun v2 => by unfold upd; rw [if_pos hjl]
    have he : entd V es clock j k = (es, clock) := by unfold entd; rw [if_pos hjl]
    obtain ⟨e', r1, r2, r3, r4⟩ := h.row j k h1
    rw [h2] at r1
    injection r1 with r1
    subst r1
    refine ⟨j, e.val, e.born, .inl ⟨h1, e, h2, rfl, rfl⟩, ⟨fun wx hb => ?_, fun wx v2 hb => ?_, fun wx hb => ?_, fun wx v2 hb => ?_⟩, r3, r4⟩
    · simp [Instr.lookup, run_underlying S.under, MapKept.run_getObj_map hb, S.keyed.check wx _ hl, hf, Result.andThen]
    · rw [hu]
      rw [← modify_congr h2 (fun e => { e with key := V k, val := v2 }) (fun e => { e with val := v2 }) (by simp [h3])]
      simp [Instr.mapUpdate, run_underlying S.under, MapKept.run_getObj_map hb, S.keyed.check wx false hl, hf, h2, h3, S.keyed.stays wx hl, MapKept.run_setObj_map _ hb, Result.andThen, setBlock]
    · rw [he]
      have hm := modify_self h2 (fun e => { e with key := V k }) (by simp [← h3])
      simp [Instr.mapEntry, run_underlying S.under, MapKept.run_getObj_map hb, S.keyed.check wx false hl, hf, h2, h3, S.keyed.stays wx hl, MapKept.run_setObj_map _ hb, Result.andThen, setBlock, goInt, hm]
    · rw [hu]
      rw [he] at hb
      have hfb := find_born h.stamped h2
      simp [Instr.entryStore, MapKept.run_getObj_map hb, asInt, asIntOf, hfb, MapKept.run_setObj_map _ hb, Result.andThen, setBlock]

/-- THE COLOURS, the new blocks coloured x. -/
def grow (col : Nat → Nat) (n x : Nat) (b : Nat) : Nat := if b < n then col b else x
theorem grow_old {col : Nat → Nat} {n x b : Nat} (h : b < n) : grow col n x b = col b := by unfold grow; rw [if_pos h]
theorem grow_new {col : Nat → Nat} {n x b : Nat} (h : n ≤ b) : grow col n x b = x := by unfold grow; rw [if_neg (by omega)]

/-- A row of another key. -/
theorem row_kept {w w3 : World} {v u : Value} {n i i' : Nat} {xs : List Value} (hu : w.ownsRow B 100 2 u n xs) (hc : ∀ b, u.ownBlock = some b → col b = c + 2 * i') (hv : ∀ b, v.ownBlock = some b → col b = c + 2 * i) (hne : i' ≠ i)
    (hm : w.heap[mb]? = some (.map es clock)) (frame : ∀ b, b < w.heap.size → b ≠ mb → some b ≠ v.ownBlock → w3.heap[b]? = w.heap[b]?) : w3.ownsRow B 100 2 u n xs := by
  refine ⟨hu.1, ?_⟩
  rcases hu.2 with h5 | ⟨g, cap, cur, hv', hb, hg, rest⟩
  · exact .inl h5
  · refine .inr ⟨g, cap, cur, hv', hb, ?_, rest⟩
    rw [frame g (Array.getElem?_eq_some_iff.1 hg).1 (fun e => by rw [e, hm] at hg; cases hg) (fun e => by
      have h1 := hv g e.symm
      have h2 := hc g (by rw [hv']; rfl)
      omega)]
    exact hg

theorem Ents.put (h : Ents w V ok B mb col c L ks es clock) (S : Spells t kt V ok) {k : K} (hk : ok k) {i : Nat} {v : Value} {st : Nat} (slot : Slot ks es clock i k v st) {w3 : World} {v2 : Value} {r : R} (hv : ∀ b, v.ownBlock = some b → col b = c + 2 * i) (hvl : ∀ b, v.ownBlock = some b → b < w.heap.size)
    (hmb : w3.heap[mb]? = some (.map (upd V es clock i k v2).1 (upd V es clock i k v2).2)) (frame : ∀ b, b < w.heap.size → b ≠ mb → some b ≠ v.ownBlock → w3.heap[b]? = w.heap[b]?)
    (own : w3.ownsRow B 100 2 v2 ((refs L k).length + 1) (refCells (refs L k) ++ [.int .i64 (r.1 : Int), .int .i64 (r.2 : Int)])) (ob : v2.ownBlock = v.ownBlock ∨ ∃ g, v2.ownBlock = some g ∧ w.heap.size ≤ g) :
    ∃ ks', Idx w3 V ok B mb (grow col w.heap.size (c + 2 * i)) c (L ++ [(k, r)]) ks' := by
  have own2 : w3.ownsRow B 100 2 v2 (refs (L ++ [(k, r)]) k).length (refCells (refs (L ++ [(k, r)]) k)) := by
    rw [refs_push_same, refCells_push, List.length_append]
    exact own
  have colV : ∀ b, v2.ownBlock = some b → grow col w.heap.size (c + 2 * i) b = c + 2 * i := fun b e => by
    rcases ob with ob | ⟨g, hg, hge⟩
    · rw [ob] at e
      rw [grow_old (hvl b e), hv b e]
    · rw [hg] at e
      injection e with e
      rw [grow_new (by omega)]
  have others : ∀ i' k', i' ≠ i → k' ≠ k → ks[i']? = some k' → ∃ e, es[i']? = some e ∧ e.key = V k' ∧ w3.ownsRow B 100 2 e.val (refs (L ++ [(k, r)]) k').length (refCells (refs (L ++ [(k, r)]) k')) ∧ ∀ b, e.val.ownBlock = some b → grow col w.heap.size (c + 2 * i) b = c + 2 * i' := fun i' k' hi' hk' hks => by
    obtain ⟨e, r1, r2, r3, r4⟩ := h.row i' k' hks
    refine ⟨e, r1, r2, ?_, fun b hb => ?_⟩
    · rw [refs_push_other L r hk']
      exact row_kept r3 r4 hv hi' h.heap frame
    · rw [grow_old (r3.lt b hb).2, r4 b hb]
  rcases slot with ⟨hks, e, he, hev, hst⟩ | ⟨hn, hi, hv0, hst⟩
  · have hil : i < es.size := (Array.getElem?_eq_some_iff.1 he).1
    have hu : upd V es clock i k v2 = (es.modify i (fun e => { e with val := v2 }), clock) := by unfold upd; rw [if_pos hil]
    rw [hu] at hmb
    refine ⟨ks, _, clock, ⟨h.seen.old (List.mem_of_getElem? hks) r, h.oks, hmb, stamped_modify h.stamped _ _ (fun _ _ => rfl) (fun _ _ _ => rfl), by simp [h.size], fun i' k' hks' => ?_⟩⟩
    by_cases hii : i' = i
    · subst hii
      have hkk : k' = k := Option.some.inj (hks'.symm.trans hks)
      subst hkk
      obtain ⟨e', r1, r2, _, _⟩ := h.row i' k' hks
      have hee : e = e' := Option.some.inj (he.symm.trans r1)
      refine ⟨{ e with val := v2 }, ?_, by rw [← r2, hee], own2, colV⟩
      rw [Array.getElem?_eq_getElem (by simpa using hil), Array.getElem_modify, if_pos rfl]
      rw [Array.getElem?_eq_getElem hil] at he
      rw [Option.some.inj he]
    · have hkk : k' ≠ k := fun e1 => by
        subst e1
        obtain ⟨a1, a2⟩ := List.getElem?_eq_some_iff.1 hks
        obtain ⟨b1, b2⟩ := List.getElem?_eq_some_iff.1 hks'
        exact hii ((List.getElem_inj h.seen.nodup).1 (b2.trans a2.symm))
      obtain ⟨e', r1, r2⟩ := others i' k' hii hkk hks'
      refine ⟨e', ?_, r2⟩
      obtain ⟨hl, hg⟩ := Array.getElem?_eq_some_iff.1 r1
      rw [Array.getElem?_eq_getElem (by simpa using hl), Array.getElem_modify, if_neg (fun e => hii e.symm), hg]
  · have hil : ¬ i < es.size := by rw [h.size]; omega
    have hu : upd V es clock i k v2 = (es.push ⟨V k, v2, clock⟩, clock + 1) := by unfold upd; rw [if_neg hil]
    rw [hu] at hmb
    have hfresh : ∀ x ∈ es.toList, x.key ≠ V k := by
      rcases h.find S hk w with ⟨_, _, h5⟩ | ⟨j, _, h5, _⟩
      · exact h5
      · exact absurd (List.mem_of_getElem? h5) hn
    refine ⟨ks ++ [k], _, clock + 1, ⟨h.seen.new hn r, fun k' hk' => ?_, hmb, stamped_push h.stamped hfresh, by simp [h.size], fun i' k' hks' => ?_⟩⟩
    · rcases List.mem_append.1 hk' with h' | h'
      · exact h.oks k' h'
      · rw [List.mem_singleton] at h'
        rw [h']
        exact hk
    · by_cases hl : i' < ks.length
      · rw [List.getElem?_append_left hl] at hks'
        obtain ⟨e', r1, r2⟩ := others i' k' (by omega) (fun e1 => hn (e1 ▸ List.mem_of_getElem? hks')) hks'
        refine ⟨e', ?_, r2⟩
        have hl2 : i' < es.size := by rw [h.size]; exact hl
        rw [Array.getElem?_push_lt hl2]
        rw [← Array.getElem?_eq_getElem hl2]
        exact r1
      · have hi2 : i' = i := by
          have := (List.getElem?_eq_some_iff.1 hks').1
          simp at this
          omega
        subst hi2
        have hkk : k = k' := by rw [hi] at hks'; simpa using hks'
        subst hkk
        refine ⟨⟨V k, v2, clock⟩, ?_, rfl, own2, colV⟩
        rw [hi, ← h.size]
        simp
end
end Go.Proofs.Qxb6602790a
