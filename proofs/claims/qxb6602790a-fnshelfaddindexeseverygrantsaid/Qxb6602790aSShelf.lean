import Derived.Test.Qxb6602790aSIdx
namespace Go.Proofs.Qxb6602790a
open Go.RowKit Go.Deep Go.MapKept SLaw
open Go.ChangeMaps (setBlock heap_setBlock_same heap_setBlock_other)

/-- OF THE BLOCKS WITHOUT A COLOUR NONE HAS TURNED. -/
structure Turn (col : Nat → Nat) (w w' : World) : Prop where
  os : w'.os = w.os
  tape : w'.tape = w.tape
  output : w'.output = w.output
  size : w.heap.size ≤ w'.heap.size
  block : ∀ b, b < w.heap.size → col b = 0 → w'.heap[b]? = w.heap[b]?
theorem Turn.refl (col : Nat → Nat) (w : World) : Turn col w w := ⟨rfl, rfl, rfl, Nat.le_refl _, fun _ _ _ => rfl⟩
theorem Turn.trans {col col' : Nat → Nat} {a b c : World} (h : Turn col a b) (k : Turn col' b c) (e : ∀ x, x < a.heap.size → col' x = col x) : Turn col a c :=
  ⟨k.os.trans h.os, k.tape.trans h.tape, k.output.trans h.output, Nat.le_trans h.size k.size, fun x hx h0 => (k.block x (Nat.lt_of_lt_of_le hx h.size) (by rw [e x hx, h0])).trans (h.block x hx h0)⟩
theorem Turn.grown {col : Nat → Nat} {a b c : World} (h : Turn col a b) {row : Option Nat} (k : b.grownBy c row) (hr : ∀ x, row = some x → x < a.heap.size → col x ≠ 0) : Turn col a c :=
  ⟨k.os.trans h.os, k.tape.trans h.tape, k.output.trans h.output, Nat.le_trans h.size k.size, fun x hx h0 => (k.block x (Nat.lt_of_lt_of_le hx h.size) (fun e => hr x e.symm hx h0)).trans (h.block x hx h0)⟩
theorem Turn.cell {col : Nat → Nat} {w w' : World} (h : Turn col w w') {a : Addr} {v : Value} (h0 : col a.block = 0) (hc : w.cell? a = some v) : w'.cell? a = some v := by
  rw [World.cell?_of_block (w := w) (h.block a.block (World.block_lt_of_cell? w _ hc) h0)]
  exact hc
theorem Turn.strs {col : Nat → Nat} {w w' : World} (h : Turn col w w') {p : Option Addr} {n : Nat} {ss : List ByteArray} (hp : ∀ b off, p = some ⟨b, off, none⟩ → col b = 0) (hs : Strs w p n ss) : Strs w' p n ss :=
  ⟨hs.len, fun j hj => by
    obtain ⟨b, off, e, hc⟩ := hs.at_ j hj
    exact ⟨b, off, e, fun i hi => h.cell (hp b off e) (hc i hi)⟩⟩
theorem Turn.row {col : Nat → Nat} {w w' : World} (h : Turn col w w') {b : Nat} {t : TypeId} {n : Nat} {f : Nat → Value} (h0 : col b = 0) (hr : w.rowIs b t n f) : w'.rowIs b t n f := hr.of_block (h.block b hr.lt h0)

/-- What the shelf stores of a set. -/
structure Sto where
  nb : Int
  na : Int
  dp : Int
  lp : Option Addr
  ln : Nat
  lc : Nat
  gp : Option Addr
  gn : Nat
  gc : Nat
def stoCells (s : Sto) : List Value := [.int .i64 s.nb, .int .i64 s.na, .int .i64 s.dp, .slice s.lp s.ln s.lc, .slice s.gp s.gn s.gc]
def boxF (v : Value) (m1 m2 : Nat) (i : Nat) : Value := if i = 0 then v else if i = 1 then .map (some m1) else .map (some m2)

/-- THE SHELF: its box sb, its listed index m1, its unlisted index m2; the colours 3, 1, 2; the row of its sets: 4; the rows of the indices: 6 + 2 i, 7 + 2 i. -/
structure Shelf (w : World) (B sb m1 m2 : Nat) (col : Nat → Nat) (st : List Sto) (F U : List (K × R)) : Prop where
  low : ∀ b, b < B → col b = 0
  cb : col sb = 3
  c1 : col m1 = 1
  c2 : col m2 = 2
  sets : ∃ v, w.rowIs sb 88 3 (boxF v m1 m2) ∧ w.ownsRow B 91 5 v st.length (st.flatMap stoCells) ∧ ∀ b, v.ownBlock = some b → col b = 4
  listed : ∃ ks, Idx w kv2 ok2 B m1 col 6 F ks
  unlisted : ∃ ks, Idx w kv1 ok1 B m2 col 7 U ks
  clip : ∀ b, w.heap.size ≤ b → col b = 0

section
variable {w : World} {t kt : TypeId} {V : K → Value} {ok : K → Prop} {B mb sb m1 m2 : Nat} {col : Nat → Nat} {c : Nat} {L F U : List (K × R)} {ks : List K} {es : Array MapEntry} {clock : Nat} {st : List Sto}

theorem Ents.recolor {col' : Nat → Nat} (h : Ents w V ok B mb col c L ks es clock) (e : ∀ b, b < w.heap.size → col' b = col b) : Ents w V ok B mb col' c L ks es clock :=
  ⟨h.seen, h.oks, h.heap, h.stamped, h.size, fun i k hk => by
    obtain ⟨x, h1, h2, h3, h4⟩ := h.row i k hk
    exact ⟨x, h1, h2, h3, fun b hb => by rw [e b (h3.lt b hb).2, h4 b hb]⟩⟩
theorem Idx.recolor {col' : Nat → Nat} (h : Idx w V ok B mb col c L ks) (e : ∀ b, b < w.heap.size → col' b = col b) : Idx w V ok B mb col' c L ks := by
  obtain ⟨es, clock, h⟩ := h
  exact ⟨es, clock, h.recolor e⟩
theorem Idx.kept {w' : World} (h : Idx w V ok B mb col c L ks) (hmb : w'.heap[mb]? = w.heap[mb]?) (hr : ∀ b i, col b = c + 2 * i → b < w.heap.size → b ≠ mb → w'.heap[b]? = w.heap[b]?) : Idx w' V ok B mb col c L ks := by
  obtain ⟨es, clock, h⟩ := h
  exact ⟨es, clock, h.kept hmb hr⟩
theorem Idx.lt (h : Idx w V ok B mb col c L ks) : mb < w.heap.size := by
  obtain ⟨es, clock, h⟩ := h
  exact (Array.getElem?_eq_some_iff.1 h.heap).1

theorem row_same {w w' : World} {B n e sz : Nat} {v : Value} {xs : List Value} (h : w.ownsRow B e sz v n xs) (hs : ∀ b, v.ownBlock = some b → b < w.heap.size → w'.heap[b]? = w.heap[b]?) : w'.ownsRow B e sz v n xs := by
  refine ⟨h.1, ?_⟩
  rcases h.2 with h5 | ⟨g, cap, cur, hv, hb, hg, rest⟩
  · exact .inl h5
  · exact .inr ⟨g, cap, cur, hv, hb, (hs g (by rw [hv]; rfl) (Array.getElem?_eq_some_iff.1 hg).1).trans hg, rest⟩

theorem Shelf.lt (h : Shelf w B sb m1 m2 col st F U) : sb < w.heap.size ∧ m1 < w.heap.size ∧ m2 < w.heap.size := by
  obtain ⟨v, h1, _⟩ := h.sets
  obtain ⟨_, h2⟩ := h.listed
  obtain ⟨_, h3⟩ := h.unlisted
  exact ⟨h1.lt, h2.lt, h3.lt⟩
theorem Shelf.below (h : Shelf w B sb m1 m2 col st F U) : B ≤ w.heap.size := by
  have h1 := h.lt.1
  have h2 := h.low sb
  have h3 := h.cb
  rcases Nat.lt_or_ge sb B with h4 | h4
  · rw [h2 h4] at h3; cases h3
  · omega

/-- The shelf stays while only blocks without a colour turn. -/
theorem Shelf.kept {w' : World} (h : Shelf w B sb m1 m2 col st F U) (hsz : w.heap.size ≤ w'.heap.size) (hs : ∀ b, b < w.heap.size → col b ≠ 0 → w'.heap[b]? = w.heap[b]?) : Shelf w' B sb m1 m2 col st F U := by
  have hl := h.lt
  refine ⟨h.low, h.cb, h.c1, h.c2, ?_, ?_, ?_, fun b hb => h.clip b (Nat.le_trans hsz hb)⟩
  · obtain ⟨v, h1, h2, h3⟩ := h.sets
    exact ⟨v, h1.of_block (hs sb hl.1 (by rw [h.cb]; omega)), row_same h2 (fun b hb hlt => hs b hlt (by rw [h3 b hb]; omega)), h3⟩
  · obtain ⟨ks, h1⟩ := h.listed
    exact ⟨ks, h1.kept (hs m1 hl.2.1 (by rw [h.c1]; omega)) (fun b i hb hlt _ => hs b hlt (by omega))⟩
  · obtain ⟨ks, h1⟩ := h.unlisted
    exact ⟨ks, h1.kept (hs m2 hl.2.2 (by rw [h.c2]; omega)) (fun b i hb hlt _ => hs b hlt (by omega))⟩
theorem Shelf.grown {w' : World} (h : Shelf w B sb m1 m2 col st F U) (hg : w.grownBy w' none) : Shelf w' B sb m1 m2 col st F U := h.kept hg.size (fun b hb _ => hg.block b hb (by simp))

/-- WHAT A STEP LEAVES. -/
def Next (w : World) (B sb m1 m2 : Nat) (col : Nat → Nat) (st : List Sto) (F U : List (K × R)) (w3 : World) : Prop :=
  ∃ col', (∀ b, b < w.heap.size → col' b = col b) ∧ Shelf w3 B sb m1 m2 col' st F U ∧ Turn col w w3
theorem Next.refl (h : Shelf w B sb m1 m2 col st F U) : Next w B sb m1 m2 col st F U w := ⟨col, fun _ _ => rfl, h, Turn.refl _ _⟩
theorem Next.trans {w1 w3 : World} {st' : List Sto} {F' U' : List (K × R)} (h : Next w B sb m1 m2 col st F U w1) (k : ∀ col1, Shelf w1 B sb m1 m2 col1 st F U → Next w1 B sb m1 m2 col1 st' F' U' w3) : Next w B sb m1 m2 col st' F' U' w3 := by
  obtain ⟨col1, e1, s1, t1⟩ := h
  obtain ⟨col2, e2, s2, t2⟩ := k col1 s1
  exact ⟨col2, fun b hb => (e2 b (Nat.lt_of_lt_of_le hb t1.size)).trans (e1 b hb), s2, t1.trans t2 e1⟩
theorem Next.grown {w1 w3 : World} (h : Next w B sb m1 m2 col st F U w1) (hg : w1.grownBy w3 none) : Next w B sb m1 m2 col st F U w3 := by
  obtain ⟨col1, e1, s1, t1⟩ := h
  exact ⟨col1, e1, s1.grown hg, t1.grown hg (fun x e => by cases e)⟩

/-- The colours behind a step, none behind the heap's end. -/
def clipped (col : Nat → Nat) (n x m : Nat) (b : Nat) : Nat := if b < m then grow col n x b else 0

theorem setBlock_size (w : World) (b : Nat) (o : Obj) : (setBlock w b o).heap.size = w.heap.size := by simp [setBlock]
theorem setBlock_grown (w : World) (b : Nat) (o : Obj) : w.grownBy (setBlock w b o) (some b) :=
  ⟨rfl, rfl, rfl, by simp [setBlock], fun i _ hi => by
    show (w.heap.setIfInBounds b o)[i]? = w.heap[i]?
    rw [Array.getElem?_setIfInBounds_ne (fun e => hi (by rw [e]))]⟩
theorem setBlock_same {w : World} {b : Nat} {o : Obj} (h : b < w.heap.size) : (setBlock w b o).heap[b]? = some o := by
  show (w.heap.setIfInBounds b o)[b]? = some o
  rw [Array.getElem?_setIfInBounds_self, if_pos h]
theorem setBlock_other {w : World} {b i : Nat} {o : Obj} (h : i ≠ b) : (setBlock w b o).heap[i]? = w.heap[i]? := by
  show (w.heap.setIfInBounds b o)[i]? = w.heap[i]?
  rw [Array.getElem?_setIfInBounds_ne (Ne.symm h)]

/-- THE END OF A STEP: one of the two indices has a listing more. -/
theorem Shelf.after (h : Shelf w B sb m1 m2 col st F U) {w3 : World} {x mb : Nat} {row : Option Nat} {F' U' : List (K × R)} (hmb : mb = m1 ∨ mb = m2)
    (os : w3.os = w.os) (tape : w3.tape = w.tape) (output : w3.output = w.output) (size : w.heap.size ≤ w3.heap.size)
    (frame : ∀ b, b < w.heap.size → b ≠ mb → some b ≠ row → w3.heap[b]? = w.heap[b]?) (hrow : ∀ b, row = some b → 6 ≤ col b)
    (hl : ∃ ks, Idx w3 kv2 ok2 B m1 (grow col w.heap.size x) 6 F' ks) (hu : ∃ ks, Idx w3 kv1 ok1 B m2 (grow col w.heap.size x) 7 U' ks) :
    Next w B sb m1 m2 col st F' U' w3 := by
  have hlt := h.lt
  have hB := h.below
  have e : ∀ b, b < w3.heap.size → clipped col w.heap.size x w3.heap.size b = grow col w.heap.size x b := fun b hb => by unfold clipped; rw [if_pos hb]
  have e' : ∀ b, b < w.heap.size → clipped col w.heap.size x w3.heap.size b = col b := fun b hb => by rw [e b (by omega), grow_old hb]
  have nmb : ∀ b, b < w.heap.size → col b = 0 ∨ 3 ≤ col b → b ≠ mb := fun b _ hc hb => by
    subst hb
    rcases hmb with rfl | rfl
    · rw [h.c1] at hc; omega
    · rw [h.c2] at hc; omega
  refine ⟨clipped col w.heap.size x w3.heap.size, e', ⟨fun b hb => by rw [e' b (by omega), h.low b hb], by rw [e' sb hlt.1, h.cb], by rw [e' m1 hlt.2.1, h.c1], by rw [e' m2 hlt.2.2, h.c2], ?_, ?_, ?_, fun b hb => by unfold clipped; rw [if_neg (by omega)]⟩, ⟨os, tape, output, size, fun b hb h0 => frame b hb (nmb b hb (.inl h0)) (fun er => by have := hrow b er.symm; omega)⟩⟩
  · obtain ⟨v, h1, h2, h3⟩ := h.sets
    refine ⟨v, h1.of_block (frame sb hlt.1 (nmb sb hlt.1 (.inr (by rw [h.cb]; omega))) (fun er => by have := hrow sb er.symm; rw [h.cb] at this; omega)), row_same h2 (fun b hb hl => frame b hl (nmb b hl (.inr (by rw [h3 b hb]; omega))) (fun er => by have := hrow b er.symm; rw [h3 b hb] at this; omega)), fun b hb => ?_⟩
    rw [e' b (h2.lt b hb).2, h3 b hb]
  · obtain ⟨ks, hi⟩ := hl
    exact ⟨ks, hi.recolor e⟩
  · obtain ⟨ks, hi⟩ := hu
    exact ⟨ks, hi.recolor e⟩

theorem kept_other {w3 : World} {x mb' : Nat} {row : Option Nat} (h : Idx w V ok B mb col c L ks) (hne : mb ≠ mb') (hmbr : some mb ≠ row) (hc : ∀ b i', col b = c + 2 * i' → some b ≠ row ∧ b ≠ mb')
    (frame : ∀ b, b < w.heap.size → b ≠ mb' → some b ≠ row → w3.heap[b]? = w.heap[b]?) : Idx w3 V ok B mb (grow col w.heap.size x) c L ks := by
  refine (h.recolor (col' := grow col w.heap.size x) (fun b hb => grow_old hb)).kept (frame mb h.lt hne hmbr) (fun b i' hb hlt _ => ?_)
  rw [grow_old hlt] at hb
  have := hc b i' hb
  exact frame b hlt this.2 this.1

/-- 'sh.unlisted[t] = append(sh.unlisted[t], ref)'. -/
theorem Shelf.toUnlisted (h : Shelf w B sb m1 m2 col st F U) {ty : ByteArray} (hk : ty.size ≤ 1048576) (r : R) :
    ∃ v n xs, (∀ wx : World, wx.heap[m2]? = w.heap[m2]? → (Instr.lookup 85 (.map (some m2)) (.string ty) false).run Try.prog wx = .ok v wx) ∧ w.ownsRow B 100 2 v n xs ∧ n ≤ U.length ∧ (∀ b, v.ownBlock = some b → 6 ≤ col b) ∧
      ∀ w1 g cap, w.grownBy w1 v.ownBlock → w1.ownsRow B 100 2 (.slice (some ⟨g, 0, none⟩) (n + 1) cap) (n + 1) (xs ++ [.int .i64 (r.1 : Int), .int .i64 (r.2 : Int)]) → (v.ownBlock = some g ∨ w.heap.size ≤ g) →
        ∃ w3, (Instr.mapUpdate 85 (.map (some m2)) (.string ty) (.slice (some ⟨g, 0, none⟩) (n + 1) cap)).run Try.prog w1 = .ok () w3 ∧ Next w B sb m1 m2 col st F (U ++ [((ty, ByteArray.empty), r)]) w3 := by
  obtain ⟨ks, es, clock, hi⟩ := h.unlisted
  have hok : ok1 (ty, ByteArray.empty) := ⟨hk, rfl⟩
  obtain ⟨i, v, stp, slot, atk, own, hcol⟩ := hi.at_ spells1 hok
  refine ⟨v, _, _, fun wx hx => atk.look wx (hx.trans hi.heap), own, refs_len _ _, fun b hb => by rw [hcol b hb]; omega, fun w1 g cap hg hown hob => ?_⟩
  have hlt := h.lt
  have hvb : ∀ b, v.ownBlock = some b → b ≠ m2 := fun b hb e => by have := hcol b hb; rw [e, h.c2] at this; omega
  have hm2 : w1.heap[m2]? = some (.map es clock) := (hg.block m2 hlt.2.2 (fun e => hvb m2 e.symm rfl)).trans hi.heap
  refine ⟨_, atk.update w1 _ hm2, ?_⟩
  have frame : ∀ b, b < w.heap.size → b ≠ m2 → some b ≠ v.ownBlock → (setBlock w1 m2 (.map (upd kv1 es clock i (ty, ByteArray.empty) (.slice (some ⟨g, 0, none⟩) ((refs U (ty, ByteArray.empty)).length + 1) cap)).1 (upd kv1 es clock i (ty, ByteArray.empty) (.slice (some ⟨g, 0, none⟩) ((refs U (ty, ByteArray.empty)).length + 1) cap)).2)).heap[b]? = w.heap[b]? := fun b hb h1 h2 => by
    rw [setBlock_other h1, hg.block b hb h2]
  have hgm : g ≠ m2 := fun e => by
    rcases hob with hob | hob
    · exact hvb g hob e
    · omega
  refine h.after (x := 7 + 2 * i) (mb := m2) (row := v.ownBlock) (.inr rfl) hg.os hg.tape hg.output (by rw [setBlock_size]; exact hg.size) frame (fun b hb => by rw [hcol b hb]; omega) ?_ ?_
  · obtain ⟨ks1, h1⟩ := h.listed
    exact ⟨ks1, kept_other h1 (fun e => by have h5 := h.c1; have h6 := h.c2; rw [e, h6] at h5; cases h5) (fun e => by have := hcol m1 e.symm; rw [h.c1] at this; omega) (fun b i' hb => ⟨fun e => by have := hcol b e.symm; omega, fun e => by rw [e, h.c2] at hb; omega⟩) frame⟩
  · exact hi.put spells1 hok slot hcol (fun b hb => (own.lt b hb).2) (setBlock_same (by have := hg.size; omega)) frame
      (row_same hown (fun b hb _ => setBlock_other (by injection hb with hb; rw [← hb]; exact hgm)))
      (by rcases hob with hob | hob
          · exact .inl hob.symm
          · exact .inr ⟨g, rfl, hob⟩)

/-- 'sh.listed[key] = append(sh.listed[key], ref)'. -/
theorem Shelf.toListed (h : Shelf w B sb m1 m2 col st F U) {ty id : ByteArray} (hk : ty.size ≤ 1048576) (hid' : id.size ≤ 1048576) (r : R) :
    ∃ v n xs o1, ∃ sp : Nat, (∀ wx : World, wx.heap[m1]? = w.heap[m1]? → (Instr.mapEntry 84 (.map (some m1)) (.agg #[.string ty, .string id])).run Try.prog wx = .ok (.tuple #[v, .int .i64 (sp : Int)]) (setBlock wx m1 o1)) ∧ (setBlock w m1 o1).ownsRow B 100 2 v n xs ∧ n ≤ F.length ∧ (∀ b, v.ownBlock = some b → 6 ≤ col b) ∧
      ∀ w1 g cap, (setBlock w m1 o1).grownBy w1 v.ownBlock → w1.ownsRow B 100 2 (.slice (some ⟨g, 0, none⟩) (n + 1) cap) (n + 1) (xs ++ [.int .i64 (r.1 : Int), .int .i64 (r.2 : Int)]) → (v.ownBlock = some g ∨ w.heap.size ≤ g) →
        ∃ w3, (Instr.entryStore 84 (.map (some m1)) (.int .i64 (sp : Int)) (.slice (some ⟨g, 0, none⟩) (n + 1) cap)).run Try.prog w1 = .ok () w3 ∧ Next w B sb m1 m2 col st (F ++ [((ty, id), r)]) U w3 := by
  obtain ⟨ks, es, clock, hi⟩ := h.listed
  have hok : ok2 (ty, id) := ⟨hk, hid'⟩
  obtain ⟨i, v, stp, slot, atk, own, hcol⟩ := hi.at_ spells2 hok
  have hlt := h.lt
  have hvb : ∀ b, v.ownBlock = some b → b ≠ m1 := fun b hb e => by have := hcol b hb; rw [e, h.c1] at this; omega
  refine ⟨v, _, _, _, stp, fun wx hx => atk.entry wx (hx.trans hi.heap), row_same own (fun b hb _ => setBlock_other (hvb b hb)), refs_len _ _, fun b hb => by rw [hcol b hb]; omega, fun w1 g cap hg hown hob => ?_⟩
  have hsz : w.heap.size ≤ w1.heap.size := by have := hg.size; rw [setBlock_size] at this; exact this
  have hm1 := (hg.block m1 (by rw [setBlock_size]; exact hlt.2.1) (fun e => hvb m1 e.symm rfl)).trans (setBlock_same hlt.2.1)
  refine ⟨_, atk.store w1 _ hm1, ?_⟩
  have frame : ∀ b, b < w.heap.size → b ≠ m1 → some b ≠ v.ownBlock → (setBlock w1 m1 (.map (upd kv2 es clock i (ty, id) (.slice (some ⟨g, 0, none⟩) ((refs F (ty, id)).length + 1) cap)).1 (upd kv2 es clock i (ty, id) (.slice (some ⟨g, 0, none⟩) ((refs F (ty, id)).length + 1) cap)).2)).heap[b]? = w.heap[b]? := fun b hb h1 h2 => by
    rw [setBlock_other h1, hg.block b (by rw [setBlock_size]; exact hb) h2, setBlock_other h1]
  have hgm : g ≠ m1 := fun e => by
    rcases hob with hob | hob
    · exact hvb g hob e
    · omega
  refine h.after (x := 6 + 2 * i) (mb := m1) (row := v.ownBlock) (.inl rfl) hg.os hg.tape hg.output (by rw [setBlock_size]; exact hsz) frame (fun b hb => by rw [hcol b hb]; omega) ?_ ?_
  · exact hi.put spells2 hok slot hcol (fun b hb => (own.lt b hb).2) (setBlock_same (by omega)) frame
      (row_same hown (fun b hb _ => setBlock_other (by injection hb with hb; rw [← hb]; exact hgm)))
      (by rcases hob with hob | hob
          · exact .inl hob.symm
          · exact .inr ⟨g, rfl, hob⟩)
  · obtain ⟨ks1, h1⟩ := h.unlisted
    exact ⟨ks1, kept_other h1 (fun e => by have h5 := h.c1; have h6 := h.c2; rw [e, h5] at h6; cases h6) (fun e => by have := hcol m2 e.symm; rw [h.c2] at this; omega) (fun b i' hb => ⟨fun e => by have := hcol b e.symm; omega, fun e => by rw [e, h.c1] at hb; omega⟩) frame⟩

/-- 'sh.sets = append(sh.sets, set)'. -/
theorem Shelf.toSets (h : Shelf w B sb m1 m2 col st F U) (s : Sto) :
    ∃ v, w.rowIs sb 88 3 (boxF v m1 m2) ∧ w.ownsRow B 91 5 v st.length (st.flatMap stoCells) ∧ (∀ b, v.ownBlock = some b → col b = 4) ∧
      ∀ w1 g cap, w.grownBy w1 v.ownBlock → w1.ownsRow B 91 5 (.slice (some ⟨g, 0, none⟩) (st.length + 1) cap) (st.length + 1) (st.flatMap stoCells ++ stoCells s) → (v.ownBlock = some g ∨ w.heap.size ≤ g) →
        Next w B sb m1 m2 col (st ++ [s]) F U (w1.setCell ⟨sb, 0, none⟩ (.slice (some ⟨g, 0, none⟩) (st.length + 1) cap)) := by
  obtain ⟨v, h1, h2, h3⟩ := h.sets
  refine ⟨v, h1, h2, h3, fun w1 g cap hg hown hob => ?_⟩
  have hlt := h.lt
  have hB := h.below
  have hsb : ∀ b, v.ownBlock = some b → b ≠ sb := fun b hb e => by have := h3 b hb; rw [e, h.cb] at this; cases this
  have hgsb : g ≠ sb := by
    rcases hob with hob | hob
    · exact hsb g hob
    · omega
  have frame : ∀ b, b < w.heap.size → b ≠ sb → some b ≠ v.ownBlock → (w1.setCell ⟨sb, 0, none⟩ (.slice (some ⟨g, 0, none⟩) (st.length + 1) cap)).heap[b]? = w.heap[b]? := fun b hb e1 e2 => by
    rw [blk_setCell_other _ _ _ _ e1, hg.block b hb e2]
  have hsz : (w1.setCell ⟨sb, 0, none⟩ (.slice (some ⟨g, 0, none⟩) (st.length + 1) cap)).heap.size = w1.heap.size := nblk_setCell _ _ _
  have hgl : g < w1.heap.size := (hown.lt g rfl).2
  have e' : ∀ b, b < w.heap.size → clipped col w.heap.size 4 w1.heap.size b = col b := fun b hb => by unfold clipped; rw [if_pos (by have := hg.size; omega), grow_old hb]
  have nv : ∀ b, col b ≠ 4 → some b ≠ v.ownBlock := fun b hb e => hb (h3 b e.symm)
  have nsb : ∀ b, col b ≠ 3 → b ≠ sb := fun b hb e => hb (by rw [e, h.cb])
  have idx : ∀ {V : K → Value} {ok : K → Prop} {mb c : Nat} {L : List (K × R)} {ks : List K}, 5 ≤ c → col mb ≠ 3 → col mb ≠ 4 → Idx w V ok B mb col c L ks → Idx (w1.setCell ⟨sb, 0, none⟩ (.slice (some ⟨g, 0, none⟩) (st.length + 1) cap)) V ok B mb (clipped col w.heap.size 4 w1.heap.size) c L ks := fun {V ok mb c L ks} hc5 hc3 hc4 hi =>
    (hi.recolor e').kept (frame mb hi.lt (nsb mb hc3) (nv mb hc4)) (fun b i hb hl _ => by
      rw [e' b hl] at hb
      exact frame b hl (nsb b (by omega)) (nv b (by omega)))
  refine ⟨clipped col w.heap.size 4 w1.heap.size, e', ⟨fun b hb => by rw [e' b (by omega), h.low b hb], by rw [e' sb hlt.1, h.cb], by rw [e' m1 hlt.2.1, h.c1], by rw [e' m2 hlt.2.2, h.c2], ?_, ?_, ?_, fun b hb => by unfold clipped; rw [if_neg (by omega)]⟩, ⟨hg.os, hg.tape, hg.output, by rw [hsz]; exact hg.size, fun b hb h0 => frame b hb (nsb b (by omega)) (nv b (by omega))⟩⟩
  · refine ⟨.slice (some ⟨g, 0, none⟩) (st.length + 1) cap, ((h1.of_block (hg.block sb hlt.1 (nv sb (by rw [h.cb]; omega)))).set 0 _).congr (fun i hi => ?_), ?_, fun b hb => ?_⟩
    · unfold boxF
      by_cases e : i = 0 <;> simp [e]
    · rw [List.length_append, List.flatMap_append]
      refine row_same (w := w1) ?_ (fun b hb _ => blk_setCell_other _ _ _ _ (by injection hb with hb; rw [← hb]; exact hgsb))
      simpa using hown
    · injection hb with hb
      subst hb
      unfold clipped
      rw [if_pos hgl]
      rcases hob with hob | hob
      · rw [grow_old ((h2.lt g hob).2), h3 g hob]
      · rw [grow_new hob]
  · obtain ⟨ks, hi⟩ := h.listed
    exact ⟨ks, idx (by omega) (by rw [h.c1]; omega) (by rw [h.c1]; omega) hi⟩
  · obtain ⟨ks, hi⟩ := h.unlisted
    exact ⟨ks, idx (by omega) (by rw [h.c2]; omega) (by rw [h.c2]; omega) hi⟩
end
end Go.Proofs.Qxb6602790a
