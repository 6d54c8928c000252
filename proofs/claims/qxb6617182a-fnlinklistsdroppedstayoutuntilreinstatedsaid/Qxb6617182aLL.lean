/-
  SEAT b6617182a: the lists of newLinkLists as they lie in memory, and what each store does to them.
-/
import Derived.Test.Qxb6617182aOwn
import Derived.WalkSmall
namespace Go.Proofs.Qxb6617182a
open Go.RowKit Go.Deep

/-- A linkLists as it lies: its block, the blocks of left and of the two follow counts, and the three slices that grow. -/
structure St where
  lb : Nat
  gl : Nat
  g0 : Nat
  g1 : Nat
  n : Nat
  va : Value
  vg : Value
  vp : Value
  left : Nat → Bool
  f0 : Nat → Nat
  f1 : Nat → Nat
  o4 : Option Addr
  c4 : Nat
  lo : List Int
  o5 : Option Addr
  c5 : Nat
  dr : List Int
  o8 : Option Addr
  c8 : Nat
  mv : List Int

/-- The block k is one that the lists may write to. -/
def St.has (s : St) (k : Nat) : Prop := k = s.lb ∨ k = s.gl ∨ k = s.g0 ∨ k = s.g1 ∨ s.o4 = some ⟨k, 0, none⟩ ∨ s.o5 = some ⟨k, 0, none⟩ ∨ s.o8 = some ⟨k, 0, none⟩

def St.cells (s : St) : Array Value :=
  #[s.va, s.vg, s.vp, .slice (some ⟨s.gl, 0, none⟩) s.n s.n, .slice s.o4 s.lo.length s.c4, .slice s.o5 s.dr.length s.c5, .slice (some ⟨s.g0, 0, none⟩) s.n s.n, .slice (some ⟨s.g1, 0, none⟩) s.n s.n, .slice s.o8 s.mv.length s.c8]

structure LL (w : World) (s : St) : Prop where
  blk : w.heap[s.lb]? = some (.cells s.cells 60 (0, 0))
  left : w.rowIs s.gl 4 s.n (fun i => .bool (s.left i))
  f0 : w.rowIs s.g0 3 s.n (fun i => .int .i64 (s.f0 i : Int))
  f1 : w.rowIs s.g1 3 s.n (fun i => .int .i64 (s.f1 i : Int))
  own4 : OwnInts w s.o4 s.c4 s.lo
  own5 : OwnInts w s.o5 s.c5 s.dr
  own8 : OwnInts w s.o8 s.c8 s.mv
  d : s.lb ≠ s.gl ∧ s.lb ≠ s.g0 ∧ s.lb ≠ s.g1 ∧ s.gl ≠ s.g0 ∧ s.gl ≠ s.g1 ∧ s.g0 ≠ s.g1
  d4 : ∀ g, s.o4 = some ⟨g, 0, none⟩ → g ≠ s.lb ∧ g ≠ s.gl ∧ g ≠ s.g0 ∧ g ≠ s.g1
  d5 : ∀ g, s.o5 = some ⟨g, 0, none⟩ → g ≠ s.lb ∧ g ≠ s.gl ∧ g ≠ s.g0 ∧ g ≠ s.g1
  d8 : ∀ g, s.o8 = some ⟨g, 0, none⟩ → g ≠ s.lb ∧ g ≠ s.gl ∧ g ≠ s.g0 ∧ g ≠ s.g1
  d45 : ∀ g, s.o4 = some ⟨g, 0, none⟩ → s.o5 ≠ some ⟨g, 0, none⟩
  d48 : ∀ g, s.o4 = some ⟨g, 0, none⟩ → s.o8 ≠ some ⟨g, 0, none⟩
  d58 : ∀ g, s.o5 = some ⟨g, 0, none⟩ → s.o8 ≠ some ⟨g, 0, none⟩

/-- From w to w' only the lists' own blocks have turned; what they own behind it they owned before, or it is new. -/
structure Moved (w w' : World) (s s' : St) : Prop where
  os : w'.os = w.os
  tape : w'.tape = w.tape
  output : w'.output = w.output
  size : w.heap.size ≤ w'.heap.size
  block : ∀ k, k < w.heap.size → ¬ s.has k → w'.heap[k]? = w.heap[k]?
  fresh : ∀ k, s'.has k → s.has k ∨ w.heap.size ≤ k

theorem Moved.refl (w : World) (s : St) : Moved w w s s := ⟨rfl, rfl, rfl, Nat.le_refl _, fun _ _ _ => rfl, fun _ h => Or.inl h⟩

theorem Moved.trans {a b c : World} {s s1 s2 : St} (h : Moved a b s s1) (k : Moved b c s1 s2) : Moved a c s s2 := by
  refine ⟨k.os.trans h.os, k.tape.trans h.tape, k.output.trans h.output, Nat.le_trans h.size k.size, fun i hi hn => ?_, fun i hi => ?_⟩
  · have hn1 : ¬ s1.has i := fun hc => by
      rcases h.fresh i hc with hc | hc
      · exact hn hc
      · omega
    exact (k.block i (Nat.lt_of_lt_of_le hi h.size) hn1).trans (h.block i hi hn)
  · rcases k.fresh i hi with h1 | h1
    · exact h.fresh i h1
    · exact Or.inr (Nat.le_trans h.size h1)

/-- A block that the lists do not own is kept, and stays none of theirs. -/
theorem Moved.off {w w' : World} {s s' : St} (h : Moved w w' s s') {k : Nat} (hk : k < w.heap.size) (hn : ¬ s.has k) : ¬ s'.has k := fun hc => by
  rcases h.fresh k hc with hc | hc
  · exact hn hc
  · omega

theorem Moved.ints {w w' : World} {s s' : St} (h : Moved w w' s s') {o : Option Addr} {zs : List Int} (hi : IntsP (fun b => ¬ s.has b) w o zs) : IntsP (fun b => ¬ s'.has b) w' o zs :=
  hi.keep (fun b hb hl => h.block b hl hb) (fun _ hb hl => h.off hl hb)

theorem Moved.mat {w w' : World} {s s' : St} (h : Moved w w' s s') {o : Option Addr} {n : Nat} {A : Nat → Option Addr} {C : Nat → Nat} {Z : Nat → List Int} (hi : MatP (fun b => ¬ s.has b) w o n A C Z) : MatP (fun b => ¬ s'.has b) w' o n A C Z :=
  hi.keep (fun b hb hl => h.block b hl hb) (fun _ hb hl => h.off hl hb)

/-- A draw. -/
theorem Moved.drawn {w w' : World} {s s' : St} (h : Moved w w' s s') (n : Nat) : Moved w (w'.drewN n) s s' := ⟨h.os, h.tape, h.output, h.size, h.block, h.fresh⟩

theorem LL.lt {w : World} {s : St} (h : LL w s) : s.lb < w.heap.size := (Array.getElem?_eq_some_iff.1 h.blk).1

theorem LL.cell {w : World} {s : St} (h : LL w s) {i : Nat} {v : Value} (hi : s.cells[i]? = some v) : w.cell? ⟨s.lb, i, none⟩ = some v := by
  rw [cell_of_row w s.lb i s.cells 60 (0, 0) h.blk]; exact hi

theorem LL.frozen {w : World} {s : St} (h : LL w s) (i : Nat) : w.frozen? ⟨s.lb, i, none⟩ = false := frozen_of_row w s.lb i s.cells 60 h.blk

theorem LL.keep {w : World} {s : St} (h : LL w s) {w' : World} (hk : ∀ k, s.has k → k < w.heap.size → w'.heap[k]? = w.heap[k]?) : LL w' s where
  blk := (hk _ (Or.inl rfl) h.lt).trans h.blk
  left := h.left.of_block (hk _ (Or.inr (Or.inl rfl)) h.left.lt)
  f0 := h.f0.of_block (hk _ (Or.inr (Or.inr (Or.inl rfl))) h.f0.lt)
  f1 := h.f1.of_block (hk _ (Or.inr (Or.inr (Or.inr (Or.inl rfl)))) h.f1.lt)
  own4 := h.own4.keep fun g hg hl => hk g (Or.inr (Or.inr (Or.inr (Or.inr (Or.inl hg))))) hl
  own5 := h.own5.keep fun g hg hl => hk g (Or.inr (Or.inr (Or.inr (Or.inr (Or.inr (Or.inl hg)))))) hl
  own8 := h.own8.keep fun g hg hl => hk g (Or.inr (Or.inr (Or.inr (Or.inr (Or.inr (Or.inr hg)))))) hl
  d := h.d
  d4 := h.d4
  d5 := h.d5
  d8 := h.d8
  d45 := h.d45
  d48 := h.d48
  d58 := h.d58

/-- A store into left. -/
theorem LL.setLeft {w : World} {s : St} (h : LL w s) (x : Nat) (b : Bool) : LL (w.setCell ⟨s.gl, x, none⟩ (.bool b)) { s with left := fun i => if i = x then b else s.left i } := by
  obtain ⟨d1, d2, d3, d4, d5, d6⟩ := h.d
  have other : ∀ k, k ≠ s.gl → (w.setCell ⟨s.gl, x, none⟩ (.bool b)).heap[k]? = w.heap[k]? := fun k hk => Below.heap_setCell _ _ _ _ hk
  refine ⟨(other _ d1).trans h.blk, (h.left.set x (.bool b)).congr fun i _ => by by_cases e : i = x <;> simp [e], h.f0.of_block (other _ d4.symm), h.f1.of_block (other _ d5.symm),
    h.own4.keep fun g hg _ => other g (h.d4 g hg).2.1, h.own5.keep fun g hg _ => other g (h.d5 g hg).2.1, h.own8.keep fun g hg _ => other g (h.d8 g hg).2.1, h.d, h.d4, h.d5, h.d8, h.d45, h.d48, h.d58⟩

/-- A store into the first counts. -/
theorem LL.setF0 {w : World} {s : St} (h : LL w s) (x y : Nat) : LL (w.setCell ⟨s.g0, x, none⟩ (.int .i64 (y : Int))) { s with f0 := fun i => if i = x then y else s.f0 i } := by
  obtain ⟨d1, d2, d3, d4, d5, d6⟩ := h.d
  have other : ∀ k, k ≠ s.g0 → (w.setCell ⟨s.g0, x, none⟩ (.int .i64 (y : Int))).heap[k]? = w.heap[k]? := fun k hk => Below.heap_setCell _ _ _ _ hk
  refine ⟨(other _ d2).trans h.blk, h.left.of_block (other _ d4), (h.f0.set x (.int .i64 (y : Int))).congr fun i _ => by by_cases e : i = x <;> simp [e], h.f1.of_block (other _ d6.symm),
    h.own4.keep fun g hg _ => other g (h.d4 g hg).2.2.1, h.own5.keep fun g hg _ => other g (h.d5 g hg).2.2.1, h.own8.keep fun g hg _ => other g (h.d8 g hg).2.2.1, h.d, h.d4, h.d5, h.d8, h.d45, h.d48, h.d58⟩

/-- A store into the second counts. -/
theorem LL.setF1 {w : World} {s : St} (h : LL w s) (x y : Nat) : LL (w.setCell ⟨s.g1, x, none⟩ (.int .i64 (y : Int))) { s with f1 := fun i => if i = x then y else s.f1 i } := by
  obtain ⟨d1, d2, d3, d4, d5, d6⟩ := h.d
  have other : ∀ k, k ≠ s.g1 → (w.setCell ⟨s.g1, x, none⟩ (.int .i64 (y : Int))).heap[k]? = w.heap[k]? := fun k hk => Below.heap_setCell _ _ _ _ hk
  refine ⟨(other _ d3).trans h.blk, h.left.of_block (other _ d5), h.f0.of_block (other _ d6), (h.f1.set x (.int .i64 (y : Int))).congr fun i _ => by by_cases e : i = x <;> simp [e],
    h.own4.keep fun g hg _ => other g (h.d4 g hg).2.2.2, h.own5.keep fun g hg _ => other g (h.d5 g hg).2.2.2, h.own8.keep fun g hg _ => other g (h.d8 g hg).2.2.2, h.d, h.d4, h.d5, h.d8, h.d45, h.d48, h.d58⟩

/-- A store into a block of theirs moves nothing else. -/
theorem St.movedSet {w : World} {s : St} {g : Nat} (hg : s.has g) (x : Nat) (v : Value) (s' : St) (hs : ∀ k, s'.has k → s.has k) : Moved w (w.setCell ⟨g, x, none⟩ v) s s' :=
  ⟨rfl, rfl, rfl, by simp, fun k _ hn => Below.heap_setCell _ _ _ _ (fun e => hn (e ▸ hg)), fun k hk => Or.inl (hs k hk)⟩

/-- The slice in field 4 has grown by one number, and is stored back. -/
theorem LL.grow4 {w w1 : World} {s : St} (h : LL w s) {g c' : Nat} {v : Int} (ho : OwnInts w1 (some ⟨g, 0, none⟩) c' (s.lo ++ [v])) (hg : w.grownBy w1 (s.o4.map Addr.block)) (hn : s.o4 = some ⟨g, 0, none⟩ ∨ w.heap.size < g) :
    LL (w1.setCell ⟨s.lb, 4, none⟩ (.slice (some ⟨g, 0, none⟩) (s.lo.length + 1) c')) { s with o4 := some ⟨g, 0, none⟩, c4 := c', lo := s.lo ++ [v] } ∧
    Moved w (w1.setCell ⟨s.lb, 4, none⟩ (.slice (some ⟨g, 0, none⟩) (s.lo.length + 1) c')) s { s with o4 := some ⟨g, 0, none⟩, c4 := c', lo := s.lo ++ [v] } := by
  have hrow : ∀ k, some k = s.o4.map Addr.block → s.o4 = some ⟨k, 0, none⟩ := by
    intro k hk
    rcases h.own4.form with ⟨e, _, _⟩ | ⟨g0, e, _, _⟩
    · rw [e] at hk; simp at hk
    · rw [e] at hk; simp at hk; rw [e, hk]
  have kept : ∀ k, k < w.heap.size → s.o4 ≠ some ⟨k, 0, none⟩ → w1.heap[k]? = w.heap[k]? := fun k hk hne => hg.block k hk fun e => hne (hrow k e)
  have hnot : ∀ k, k = s.lb ∨ k = s.gl ∨ k = s.g0 ∨ k = s.g1 → s.o4 ≠ some ⟨k, 0, none⟩ := fun k hk e => by
    have := h.d4 k e; omega
  have kb := (kept s.lb h.lt (hnot _ (Or.inl rfl))).trans h.blk
  have kl := h.left.of_block (kept s.gl h.left.lt (hnot _ (Or.inr (Or.inl rfl))))
  have k0 := h.f0.of_block (kept s.g0 h.f0.lt (hnot _ (Or.inr (Or.inr (Or.inl rfl)))))
  have k1 := h.f1.of_block (kept s.g1 h.f1.lt (hnot _ (Or.inr (Or.inr (Or.inr rfl)))))
  have other : ∀ k, k ≠ s.lb → (w1.setCell ⟨s.lb, 4, none⟩ (.slice (some ⟨g, 0, none⟩) (s.lo.length + 1) c')).heap[k]? = w1.heap[k]? := fun k hk => Below.heap_setCell _ _ _ _ hk
  have hsz := hg.size
  have hgne : ∀ k, k < w.heap.size → k = g → s.o4 = some ⟨k, 0, none⟩ := fun k hk e => by
    subst e
    rcases hn with hn | hn
    · exact hn
    · omega
  obtain ⟨e1, e2, e3, e4, e5, e6⟩ := h.d
  have gd : g ≠ s.lb ∧ g ≠ s.gl ∧ g ≠ s.g0 ∧ g ≠ s.g1 :=
    ⟨fun e => hnot s.lb (Or.inl rfl) (hgne s.lb h.lt e.symm), fun e => hnot s.gl (Or.inr (Or.inl rfl)) (hgne s.gl h.left.lt e.symm), fun e => hnot s.g0 (Or.inr (Or.inr (Or.inl rfl))) (hgne s.g0 h.f0.lt e.symm), fun e => hnot s.g1 (Or.inr (Or.inr (Or.inr rfl))) (hgne s.g1 h.f1.lt e.symm)⟩
  refine ⟨⟨?_, kl.of_block (other _ e1.symm), k0.of_block (other _ e2.symm), k1.of_block (other _ e3.symm), ?own4, ?own5, ?own8, h.d, ?d4, ?d5, ?d8, ?d45, ?d48, ?d58⟩, ⟨hg.os, hg.tape, hg.output, by simpa using hsz, fun k hk hnh => ?_, fun k hk => ?_⟩⟩
  · rw [show (w1.setCell ⟨s.lb, 4, none⟩ (.slice (some ⟨g, 0, none⟩) (s.lo.length + 1) c')).heap[s.lb]? = some (.cells (s.cells.setIfInBounds 4 (.slice (some ⟨g, 0, none⟩) (s.lo.length + 1) c')) 60 (0, 0)) from heap_setCell_same w1 s.lb 4 s.cells 60 _ kb]
    simp [St.cells]
  case own4 => exact ho.keep fun g' hg' _ => other g' (by simp at hg'; omega)
  case own5 => exact h.own5.keep fun g' hg' hl => (other g' (h.d5 g' hg').1).trans (kept g' hl fun e => h.d45 g' e hg')
  case own8 => exact h.own8.keep fun g' hg' hl => (other g' (h.d8 g' hg').1).trans (kept g' hl fun e => h.d48 g' e hg')
  case d4 => intro g' hg'; simp at hg'; subst hg'; exact gd
  case d5 => exact h.d5
  case d8 => exact h.d8
  case d45 =>
    intro g' hg' e
    simp at hg'
    subst hg'
    rcases h.own5.form with ⟨en, _, _⟩ | ⟨g2, e2', hl2, _⟩
    · simp only at e; rw [en] at e; cases e
    · simp only at e
      rw [e2'] at e
      simp at e
      exact h.d45 g (hgne g (by omega) rfl) (by rw [e2', e])
  case d48 =>
    intro g' hg' e
    simp at hg'
    subst hg'
    rcases h.own8.form with ⟨en, _, _⟩ | ⟨g2, e2', hl2, _⟩
    · simp only at e; rw [en] at e; cases e
    · simp only at e
      rw [e2'] at e
      simp at e
      exact h.d48 g (hgne g (by omega) rfl) (by rw [e2', e])
  case d58 => exact h.d58
  · exact (other k (fun e => hnh (Or.inl e))).trans (kept k hk fun e => hnh (Or.inr (Or.inr (Or.inr (Or.inr (Or.inl e))))))
  · unfold St.has at hk ⊢
    simp only [Option.some.injEq, Addr.mk.injEq, and_true] at hk
    rcases hk with hk | hk | hk | hk | hk | hk | hk
    all_goals first | (right; rcases hn with hn | hn <;> omega) | (left; simp [hk]; done) | skip
    all_goals
      rcases hn with hn | hn
      · left; rw [← hk]; simp [hn]
      · right; omega

/-- The slice in field 5 has grown by one number, and is stored back. -/
theorem LL.grow5 {w w1 : World} {s : St} (h : LL w s) {g c' : Nat} {v : Int} (ho : OwnInts w1 (some ⟨g, 0, none⟩) c' (s.dr ++ [v])) (hg : w.grownBy w1 (s.o5.map Addr.block)) (hn : s.o5 = some ⟨g, 0, none⟩ ∨ w.heap.size < g) :
    LL (w1.setCell ⟨s.lb, 5, none⟩ (.slice (some ⟨g, 0, none⟩) (s.dr.length + 1) c')) { s with o5 := some ⟨g, 0, none⟩, c5 := c', dr := s.dr ++ [v] } ∧
    Moved w (w1.setCell ⟨s.lb, 5, none⟩ (.slice (some ⟨g, 0, none⟩) (s.dr.length + 1) c')) s { s with o5 := some ⟨g, 0, none⟩, c5 := c', dr := s.dr ++ [v] } := by
  have hrow : ∀ k, some k = s.o5.map Addr.block → s.o5 = some ⟨k, 0, none⟩ := by
    intro k hk
    rcases h.own5.form with ⟨e, _, _⟩ | ⟨g0, e, _, _⟩
    · rw [e] at hk; simp at hk
    · rw [e] at hk; simp at hk; rw [e, hk]
  have kept : ∀ k, k < w.heap.size → s.o5 ≠ some ⟨k, 0, none⟩ → w1.heap[k]? = w.heap[k]? := fun k hk hne => hg.block k hk fun e => hne (hrow k e)
  have hnot : ∀ k, k = s.lb ∨ k = s.gl ∨ k = s.g0 ∨ k = s.g1 → s.o5 ≠ some ⟨k, 0, none⟩ := fun k hk e => by
    have := h.d5 k e; omega
  have kb := (kept s.lb h.lt (hnot _ (Or.inl rfl))).trans h.blk
  have kl := h.left.of_block (kept s.gl h.left.lt (hnot _ (Or.inr (Or.inl rfl))))
  have k0 := h.f0.of_block (kept s.g0 h.f0.lt (hnot _ (Or.inr (Or.inr (Or.inl rfl)))))
  have k1 := h.f1.of_block (kept s.g1 h.f1.lt (hnot _ (Or.inr (Or.inr (Or.inr rfl)))))
  have other : ∀ k, k ≠ s.lb → (w1.setCell ⟨s.lb, 5, none⟩ (.slice (some ⟨g, 0, none⟩) (s.dr.length + 1) c')).heap[k]? = w1.heap[k]? := fun k hk => Below.heap_setCell _ _ _ _ hk
  have hsz := hg.size
  have hgne : ∀ k, k < w.heap.size → k = g → s.o5 = some ⟨k, 0, none⟩ := fun k hk e => by
    subst e
    rcases hn with hn | hn
    · exact hn
    · omega
  obtain ⟨e1, e2, e3, e4, e5, e6⟩ := h.d
  have gd : g ≠ s.lb ∧ g ≠ s.gl ∧ g ≠ s.g0 ∧ g ≠ s.g1 :=
    ⟨fun e => hnot s.lb (Or.inl rfl) (hgne s.lb h.lt e.symm), fun e => hnot s.gl (Or.inr (Or.inl rfl)) (hgne s.gl h.left.lt e.symm), fun e => hnot s.g0 (Or.inr (Or.inr (Or.inl rfl))) (hgne s.g0 h.f0.lt e.symm), fun e => hnot s.g1 (Or.inr (Or.inr (Or.inr rfl))) (hgne s.g1 h.f1.lt e.symm)⟩
  refine ⟨⟨?_, kl.of_block (other _ e1.symm), k0.of_block (other _ e2.symm), k1.of_block (other _ e3.symm), ?own4, ?own5, ?own8, h.d, ?d4, ?d5, ?d8, ?d45, ?d48, ?d58⟩, ⟨hg.os, hg.tape, hg.output, by simpa using hsz, fun k hk hnh => ?_, fun k hk => ?_⟩⟩
  · rw [show (w1.setCell ⟨s.lb, 5, none⟩ (.slice (some ⟨g, 0, none⟩) (s.dr.length + 1) c')).heap[s.lb]? = some (.cells (s.cells.setIfInBounds 5 (.slice (some ⟨g, 0, none⟩) (s.dr.length + 1) c')) 60 (0, 0)) from heap_setCell_same w1 s.lb 5 s.cells 60 _ kb]
    simp [St.cells]
  case own4 => exact h.own4.keep fun g' hg' hl => (other g' (h.d4 g' hg').1).trans (kept g' hl fun e => h.d45 g' hg' e)
  case own5 => exact ho.keep fun g' hg' _ => other g' (by simp at hg'; omega)
  case own8 => exact h.own8.keep fun g' hg' hl => (other g' (h.d8 g' hg').1).trans (kept g' hl fun e => h.d58 g' e hg')
  case d4 => exact h.d4
  case d5 => intro g' hg'; simp at hg'; subst hg'; exact gd
  case d8 => exact h.d8
  case d45 =>
    intro g' hg' e
    simp at e
    subst e
    rcases h.own4.form with ⟨en, _, _⟩ | ⟨g2, e2', hl2, _⟩
    · simp only at hg'; rw [en] at hg'; cases hg'
    · simp only at hg'
      rw [e2'] at hg'
      simp at hg'
      exact h.d45 g (by rw [e2', hg']) (hgne g (by omega) rfl)
  case d48 => exact h.d48
  case d58 =>
    intro g' hg' e
    simp at hg'
    subst hg'
    rcases h.own8.form with ⟨en, _, _⟩ | ⟨g2, e2', hl2, _⟩
    · simp only at e; rw [en] at e; cases e
    · simp only at e
      rw [e2'] at e
      simp at e
      exact h.d58 g (hgne g (by omega) rfl) (by rw [e2', e])
  · exact (other k (fun e => hnh (Or.inl e))).trans (kept k hk fun e => hnh (Or.inr (Or.inr (Or.inr (Or.inr (Or.inr (Or.inl e)))))))
  · unfold St.has at hk ⊢
    simp only [Option.some.injEq, Addr.mk.injEq, and_true] at hk
    rcases hk with hk | hk | hk | hk | hk | hk | hk
    all_goals first | (right; rcases hn with hn | hn <;> omega) | (left; simp [hk]; done) | skip
    all_goals
      rcases hn with hn | hn
      · left; rw [← hk]; simp [hn]
      · right; omega

/-- The slice in field 8 has grown by one number, and is stored back. -/
theorem LL.grow8 {w w1 : World} {s : St} (h : LL w s) {g c' : Nat} {v : Int} (ho : OwnInts w1 (some ⟨g, 0, none⟩) c' (s.mv ++ [v])) (hg : w.grownBy w1 (s.o8.map Addr.block)) (hn : s.o8 = some ⟨g, 0, none⟩ ∨ w.heap.size < g) :
    LL (w1.setCell ⟨s.lb, 8, none⟩ (.slice (some ⟨g, 0, none⟩) (s.mv.length + 1) c')) { s with o8 := some ⟨g, 0, none⟩, c8 := c', mv := s.mv ++ [v] } ∧
    Moved w (w1.setCell ⟨s.lb, 8, none⟩ (.slice (some ⟨g, 0, none⟩) (s.mv.length + 1) c')) s { s with o8 := some ⟨g, 0, none⟩, c8 := c', mv := s.mv ++ [v] } := by
  have hrow : ∀ k, some k = s.o8.map Addr.block → s.o8 = some ⟨k, 0, none⟩ := by
    intro k hk
    rcases h.own8.form with ⟨e, _, _⟩ | ⟨g0, e, _, _⟩
    · rw [e] at hk; simp at hk
    · rw [e] at hk; simp at hk; rw [e, hk]
  have kept : ∀ k, k < w.heap.size → s.o8 ≠ some ⟨k, 0, none⟩ → w1.heap[k]? = w.heap[k]? := fun k hk hne => hg.block k hk fun e => hne (hrow k e)
  have hnot : ∀ k, k = s.lb ∨ k = s.gl ∨ k = s.g0 ∨ k = s.g1 → s.o8 ≠ some ⟨k, 0, none⟩ := fun k hk e => by
    have := h.d8 k e; omega
  have kb := (kept s.lb h.lt (hnot _ (Or.inl rfl))).trans h.blk
  have kl := h.left.of_block (kept s.gl h.left.lt (hnot _ (Or.inr (Or.inl rfl))))
  have k0 := h.f0.of_block (kept s.g0 h.f0.lt (hnot _ (Or.inr (Or.inr (Or.inl rfl)))))
  have k1 := h.f1.of_block (kept s.g1 h.f1.lt (hnot _ (Or.inr (Or.inr (Or.inr rfl)))))
  have other : ∀ k, k ≠ s.lb → (w1.setCell ⟨s.lb, 8, none⟩ (.slice (some ⟨g, 0, none⟩) (s.mv.length + 1) c')).heap[k]? = w1.heap[k]? := fun k hk => Below.heap_setCell _ _ _ _ hk
  have hsz := hg.size
  have hgne : ∀ k, k < w.heap.size → k = g → s.o8 = some ⟨k, 0, none⟩ := fun k hk e => by
    subst e
    rcases hn with hn | hn
    · exact hn
    · omega
  obtain ⟨e1, e2, e3, e4, e5, e6⟩ := h.d
  have gd : g ≠ s.lb ∧ g ≠ s.gl ∧ g ≠ s.g0 ∧ g ≠ s.g1 :=
    ⟨fun e => hnot s.lb (Or.inl rfl) (hgne s.lb h.lt e.symm), fun e => hnot s.gl (Or.inr (Or.inl rfl)) (hgne s.gl h.left.lt e.symm), fun e => hnot s.g0 (Or.inr (Or.inr (Or.inl rfl))) (hgne s.g0 h.f0.lt e.symm), fun e => hnot s.g1 (Or.inr (Or.inr (Or.inr rfl))) (hgne s.g1 h.f1.lt e.symm)⟩
  refine ⟨⟨?_, kl.of_block (other _ e1.symm), k0.of_block (other _ e2.symm), k1.of_block (other _ e3.symm), ?own4, ?own5, ?own8, h.d, ?d4, ?d5, ?d8, ?d45, ?d48, ?d58⟩, ⟨hg.os, hg.tape, hg.output, by simpa using hsz, fun k hk hnh => ?_, fun k hk => ?_⟩⟩
  · rw [show (w1.setCell ⟨s.lb, 8, none⟩ (.slice (some ⟨g, 0, none⟩) (s.mv.length + 1) c')).heap[s.lb]? = some (.cells (s.cells.setIfInBounds 8 (.slice (some ⟨g, 0, none⟩) (s.mv.length + 1) c')) 60 (0, 0)) from heap_setCell_same w1 s.lb 8 s.cells 60 _ kb]
    simp [St.cells]
  case own4 => exact h.own4.keep fun g' hg' hl => (other g' (h.d4 g' hg').1).trans (kept g' hl fun e => h.d48 g' hg' e)
  case own5 => exact h.own5.keep fun g' hg' hl => (other g' (h.d5 g' hg').1).trans (kept g' hl fun e => h.d58 g' hg' e)
  case own8 => exact ho.keep fun g' hg' _ => other g' (by simp at hg'; omega)
  case d4 => exact h.d4
  case d5 => exact h.d5
  case d8 => intro g' hg'; simp at hg'; subst hg'; exact gd
  case d45 => exact h.d45
  case d48 =>
    intro g' hg' e
    simp at e
    subst e
    rcases h.own4.form with ⟨en, _, _⟩ | ⟨g2, e2', hl2, _⟩
    · simp only at hg'; rw [en] at hg'; cases hg'
    · simp only at hg'
      rw [e2'] at hg'
      simp at hg'
      exact h.d48 g (by rw [e2', hg']) (hgne g (by omega) rfl)
  case d58 =>
    intro g' hg' e
    simp at e
    subst e
    rcases h.own5.form with ⟨en, _, _⟩ | ⟨g2, e2', hl2, _⟩
    · simp only at hg'; rw [en] at hg'; cases hg'
    · simp only at hg'
      rw [e2'] at hg'
      simp at hg'
      exact h.d58 g (by rw [e2', hg']) (hgne g (by omega) rfl)
  · exact (other k (fun e => hnh (Or.inl e))).trans (kept k hk fun e => hnh (Or.inr (Or.inr (Or.inr (Or.inr (Or.inr (Or.inr e)))))))
  · unfold St.has at hk ⊢
    simp only [Option.some.injEq, Addr.mk.injEq, and_true] at hk
    rcases hk with hk | hk | hk | hk | hk | hk | hk
    all_goals first | (right; rcases hn with hn | hn <;> omega) | (left; simp [hk]; done) | skip
    all_goals
      rcases hn with hn | hn
      · left; rw [← hk]; simp [hn]
      · right; omega

theorem LL.blk4 {w w1 : World} {s : St} (h : LL w s) (hg : w.grownBy w1 (s.o4.map Addr.block)) : w1.heap[s.lb]? = some (.cells s.cells 60 (0, 0)) := by
  refine (hg.block s.lb h.lt fun e => ?_).trans h.blk
  rcases h.own4.form with ⟨e', _, _⟩ | ⟨g0, e', _, _⟩
  · rw [e'] at e; simp at e
  · rw [e'] at e; simp at e; exact (h.d4 g0 e').1 e.symm

theorem LL.blk5 {w w1 : World} {s : St} (h : LL w s) (hg : w.grownBy w1 (s.o5.map Addr.block)) : w1.heap[s.lb]? = some (.cells s.cells 60 (0, 0)) := by
  refine (hg.block s.lb h.lt fun e => ?_).trans h.blk
  rcases h.own5.form with ⟨e', _, _⟩ | ⟨g0, e', _, _⟩
  · rw [e'] at e; simp at e
  · rw [e'] at e; simp at e; exact (h.d5 g0 e').1 e.symm

theorem LL.blk8 {w w1 : World} {s : St} (h : LL w s) (hg : w.grownBy w1 (s.o8.map Addr.block)) : w1.heap[s.lb]? = some (.cells s.cells 60 (0, 0)) := by
  refine (hg.block s.lb h.lt fun e => ?_).trans h.blk
  rcases h.own8.form with ⟨e', _, _⟩ | ⟨g0, e', _, _⟩
  · rw [e'] at e; simp at e
  · rw [e'] at e; simp at e; exact (h.d8 g0 e').1 e.symm

/-- The slice in field 4 is cut to nothing and stored back. -/
theorem LL.cut4 {w : World} {s : St} (h : LL w s) : LL (w.setCell ⟨s.lb, 4, none⟩ (.slice s.o4 0 s.c4)) { s with lo := [] } := by
  obtain ⟨e1, e2, e3, _, _, _⟩ := h.d
  have other : ∀ k, k ≠ s.lb → (w.setCell ⟨s.lb, 4, none⟩ (.slice s.o4 0 s.c4)).heap[k]? = w.heap[k]? := fun k hk => Below.heap_setCell _ _ _ _ hk
  refine ⟨?_, h.left.of_block (other _ e1.symm), h.f0.of_block (other _ e2.symm), h.f1.of_block (other _ e3.symm), h.own4.cut.keep fun g hg _ => other g (h.d4 g hg).1, h.own5.keep fun g hg _ => other g (h.d5 g hg).1, h.own8.keep fun g hg _ => other g (h.d8 g hg).1, h.d, h.d4, h.d5, h.d8, h.d45, h.d48, h.d58⟩
  rw [show (w.setCell ⟨s.lb, 4, none⟩ (.slice s.o4 0 s.c4)).heap[s.lb]? = some (.cells (s.cells.setIfInBounds 4 (.slice s.o4 0 s.c4)) 60 (0, 0)) from heap_setCell_same w s.lb 4 s.cells 60 _ h.blk]
  simp [St.cells]

/-- The slice in field 5 is cut to nothing and stored back. -/
theorem LL.cut5 {w : World} {s : St} (h : LL w s) : LL (w.setCell ⟨s.lb, 5, none⟩ (.slice s.o5 0 s.c5)) { s with dr := [] } := by
  obtain ⟨e1, e2, e3, _, _, _⟩ := h.d
  have other : ∀ k, k ≠ s.lb → (w.setCell ⟨s.lb, 5, none⟩ (.slice s.o5 0 s.c5)).heap[k]? = w.heap[k]? := fun k hk => Below.heap_setCell _ _ _ _ hk
  refine ⟨?_, h.left.of_block (other _ e1.symm), h.f0.of_block (other _ e2.symm), h.f1.of_block (other _ e3.symm), h.own4.keep fun g hg _ => other g (h.d4 g hg).1, h.own5.cut.keep fun g hg _ => other g (h.d5 g hg).1, h.own8.keep fun g hg _ => other g (h.d8 g hg).1, h.d, h.d4, h.d5, h.d8, h.d45, h.d48, h.d58⟩
  rw [show (w.setCell ⟨s.lb, 5, none⟩ (.slice s.o5 0 s.c5)).heap[s.lb]? = some (.cells (s.cells.setIfInBounds 5 (.slice s.o5 0 s.c5)) 60 (0, 0)) from heap_setCell_same w s.lb 5 s.cells 60 _ h.blk]
  simp [St.cells]

/-- The slice in field 8 is cut to nothing and stored back. -/
theorem LL.cut8 {w : World} {s : St} (h : LL w s) : LL (w.setCell ⟨s.lb, 8, none⟩ (.slice s.o8 0 s.c8)) { s with mv := [] } := by
  obtain ⟨e1, e2, e3, _, _, _⟩ := h.d
  have other : ∀ k, k ≠ s.lb → (w.setCell ⟨s.lb, 8, none⟩ (.slice s.o8 0 s.c8)).heap[k]? = w.heap[k]? := fun k hk => Below.heap_setCell _ _ _ _ hk
  refine ⟨?_, h.left.of_block (other _ e1.symm), h.f0.of_block (other _ e2.symm), h.f1.of_block (other _ e3.symm), h.own4.keep fun g hg _ => other g (h.d4 g hg).1, h.own5.keep fun g hg _ => other g (h.d5 g hg).1, h.own8.cut.keep fun g hg _ => other g (h.d8 g hg).1, h.d, h.d4, h.d5, h.d8, h.d45, h.d48, h.d58⟩
  rw [show (w.setCell ⟨s.lb, 8, none⟩ (.slice s.o8 0 s.c8)).heap[s.lb]? = some (.cells (s.cells.setIfInBounds 8 (.slice s.o8 0 s.c8)) 60 (0, 0)) from heap_setCell_same w s.lb 8 s.cells 60 _ h.blk]
  simp [St.cells]

theorem cellOf {w : World} {b i : Nat} {c : Array Value} {t : TypeId} {v : Value} (h : w.heap[b]? = some (.cells c t (0, 0))) (hi : c[i]? = some v) : w.cell? ⟨b, i, none⟩ = some v := by
  rw [cell_of_row w b i c t (0, 0) h]; exact hi

end Go.Proofs.Qxb6617182a
