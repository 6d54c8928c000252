import Derived.Test.Qxb6617182aNewParts
import Derived.Test.Qxb6617182aSortPlain
namespace Go.Proofs.Qxb6617182a
open Go.RowKit Go.Deep

/-- The cells i .. e of a list. -/
def seg (P : List (Int × Int)) (i e : Nat) : List (Int × Int) := (P.take e).drop i

theorem seg_cons (P : List (Int × Int)) (i e : Nat) (h : i < e) (he : e ≤ P.length) : seg P i e = P.getD i (0, 0) :: seg P (i + 1) e := by
  unfold seg
  rw [List.drop_eq_getElem_cons (by rw [List.length_take]; omega)]
  congr 1
  simp [List.getD, show i < P.length by omega]

theorem seg_nil (P : List (Int × Int)) (i e : Nat) (h : e ≤ i) : seg P i e = [] := by
  unfold seg
  exact List.drop_eq_nil_of_le (by rw [List.length_take]; omega)

theorem seg_take (P : List (Int × Int)) (i w e : Nat) (h : e = min (i + w) P.length) : seg P i e = (P.drop i).take w := by
  subst h
  unfold seg
  rw [List.drop_take]
  by_cases hl : i + w ≤ P.length
  · rw [Nat.min_eq_left hl]; congr 1; omega
  · rw [Nat.min_eq_right (by omega), List.take_of_length_le (by simp), List.take_of_length_le (by simp; omega)]

theorem merge_i {x : Int × Int} {xs ys : List (Int × Int)} (h : ∀ y ys', ys = y :: ys' → leP x y = true) : (x :: xs).merge ys leP = x :: xs.merge ys leP := by
  cases ys with
  | nil => simp
  | cons y ys' => rw [List.cons_merge_cons, if_pos (h y ys' rfl)]

theorem merge_j {y : Int × Int} {xs ys : List (Int × Int)} (h : ∀ x xs', xs = x :: xs' → leP x y = false) : xs.merge (y :: ys) leP = y :: xs.merge ys leP := by
  cases xs with
  | nil => simp
  | cons x xs' => rw [List.cons_merge_cons, if_neg (by rw [h x xs' rfl]; simp)]

theorem take_set_snoc (B : List (Int × Int)) (k : Nat) (p : Int × Int) (h : k < B.length) : (B.set k p).take (k + 1) = B.take k ++ [p] := by
  rw [List.take_succ_eq_append_getElem (by simpa using h)]
  simp [List.take_set_of_le]

theorem step_i {P B R : List (Int × Int)} {mid hi i j k : Nat} (h : B.take k ++ (seg P i mid).merge (seg P j hi) leP = R) (hk : k < B.length) (hi1 : i < mid) (hm : mid ≤ P.length) (hh : hi ≤ P.length)
    (hle : j < hi → leP (P.getD i (0, 0)) (P.getD j (0, 0)) = true) : (B.set k (P.getD i (0, 0))).take (k + 1) ++ (seg P (i + 1) mid).merge (seg P j hi) leP = R := by
  rw [← h, take_set_snoc B k _ hk, seg_cons P i mid hi1 hm, merge_i, List.append_assoc]
  · rfl
  · intro y ys' e
    by_cases hj : j < hi
    · rw [seg_cons P j hi hj hh] at e
      have := (List.cons.inj e).1
      rw [← this]; exact hle hj
    · rw [seg_nil P j hi (by omega)] at e; cases e

theorem step_j {P B R : List (Int × Int)} {mid hi i j k : Nat} (h : B.take k ++ (seg P i mid).merge (seg P j hi) leP = R) (hk : k < B.length) (hj1 : j < hi) (hm : mid ≤ P.length) (hh : hi ≤ P.length)
    (hle : i < mid → leP (P.getD i (0, 0)) (P.getD j (0, 0)) = false) : (B.set k (P.getD j (0, 0))).take (k + 1) ++ (seg P i mid).merge (seg P (j + 1) hi) leP = R := by
  rw [← h, take_set_snoc B k _ hk, seg_cons P j hi hj1 hh, merge_j, List.append_assoc]
  · rfl
  · intro x xs' e
    by_cases hi1 : i < mid
    · rw [seg_cons P i mid hi1 hm] at e
      have := (List.cons.inj e).1
      rw [← this]; exact hle hi1
    · rw [seg_nil P i mid (by omega)] at e; cases e

theorem step_lo {P B B2 : List (Int × Int)} {m lo W f mid hi : Nat} (hP : P.length = m) (hB : B.length = m) (hlm : lo < m) (hW : 1 ≤ W) (hmid : mid = min (lo + W) m) (hhi : hi = min (mid + W) m)
    (h1 : B2.take lo ++ pass W (f + 1) (P.drop lo) = pass W m P) (h2 : B.take hi = B2.take lo ++ (seg P lo mid).merge (seg P mid hi) leP) : B.take (lo + 2 * W) ++ pass W f (P.drop (lo + 2 * W)) = pass W m P := by
  have hne : P.drop lo ≠ [] := fun e => by
    have := congrArg List.length e
    simp at this
    omega
  rw [pass, if_neg hne] at h1
  have e1 : seg P lo mid = (P.drop lo).take W := seg_take P lo W mid (by rw [hP]; exact hmid)
  have e2 : seg P mid hi = ((P.drop lo).drop W).take W := by
    rw [List.drop_drop]
    by_cases hc : lo + W ≤ m
    · have hme : mid = lo + W := by omega
      rw [seg_take P mid W hi (by rw [hP]; exact hhi), hme]
    · rw [seg_nil P mid hi (by omega), List.drop_eq_nil_of_le (by omega)]; simp
  have e3 : B.take (lo + 2 * W) = B.take hi := by
    by_cases hc : lo + 2 * W ≤ m
    · congr 1; omega
    · rw [List.take_of_length_le (by omega), List.take_of_length_le (by omega)]
  rw [e3, h2, e1, e2, ← h1, List.append_assoc, List.drop_drop (i := 2 * W) (j := lo)]

theorem copy_step (B P : List (Int × Int)) (k : Nat) (hB : k < B.length) (hP : P.length = B.length) : (B.take k ++ P.drop k).set k (B.getD k (0, 0)) = B.take (k + 1) ++ P.drop (k + 1) := by
  have hl : (B.take k).length = k := by rw [List.length_take]; omega
  rw [List.set_append_right _ _ (by omega), hl, Nat.sub_self, List.drop_eq_getElem_cons (show k < P.length by omega), List.set_cons_zero, List.take_succ_eq_append_getElem hB, List.append_assoc]
  simp [List.getD, hB]

/-- The sort's memory: the two slices hold P, the two buffers B. -/
structure SortSt (w : World) (gt gf b1 b2 ct cf m : Nat) (P B : List (Int × Int)) : Prop where
  lp : P.length = m
  lb : B.length = m
  o1 : OwnInts w (some ⟨gt, 0, none⟩) ct (P.map Prod.fst)
  o2 : OwnInts w (some ⟨gf, 0, none⟩) cf (P.map Prod.snd)
  r1 : w.rowIs b1 3 m (fun i => .int .i64 (B.getD i (0, 0)).1)
  r2 : w.rowIs b2 3 m (fun i => .int .i64 (B.getD i (0, 0)).2)

theorem own_cell {w : World} {g c : Nat} {xs : List Int} (h : OwnInts w (some ⟨g, 0, none⟩) c xs) {i : Nat} (hi : i < xs.length) : w.cell? ⟨g, i, none⟩ = some (.int .i64 (xs.getD i 0)) := by
  rw [World.ownsRow.cellAt h i (by omega)]
  simp [List.getD, hi]

theorem own_frozen {w : World} {g c : Nat} {xs : List Int} (h : OwnInts w (some ⟨g, 0, none⟩) c xs) (i : Nat) : w.frozen? ⟨g, i, none⟩ = false := World.ownsRow.frozenAt h i

theorem own_set {w : World} {g c : Nat} {xs : List Int} (h : OwnInts w (some ⟨g, 0, none⟩) c xs) (i : Nat) (x : Int) : OwnInts (w.setCell ⟨g, i, none⟩ (.int .i64 x)) (some ⟨g, 0, none⟩) c (xs.set i x) := by
  have := (World.ownsRow.stored h i (.int .i64 x)).1
  unfold OwnInts
  rw [List.length_set, List.map_set]
  exact this

theorem SortSt.cell1 {w : World} {gt gf b1 b2 ct cf m : Nat} {P B : List (Int × Int)} (h : SortSt w gt gf b1 b2 ct cf m P B) {i : Nat} (hi : i < m) : w.cell? ⟨gt, i, none⟩ = some (.int .i64 (P.getD i (0, 0)).1) := by
  have hl := h.lp
  rw [own_cell h.o1 (by simpa [hl] using hi)]
  simp [List.getD, show i < P.length by omega]

theorem SortSt.cell2 {w : World} {gt gf b1 b2 ct cf m : Nat} {P B : List (Int × Int)} (h : SortSt w gt gf b1 b2 ct cf m P B) {i : Nat} (hi : i < m) : w.cell? ⟨gf, i, none⟩ = some (.int .i64 (P.getD i (0, 0)).2) := by
  have hl := h.lp
  rw [own_cell h.o2 (by simpa [hl] using hi)]
  simp [List.getD, show i < P.length by omega]

theorem getD_set (B : List (Int × Int)) (k i : Nat) (p : Int × Int) (hk : k < B.length) : (B.set k p).getD i (0, 0) = if i = k then p else B.getD i (0, 0) := by
  by_cases e : i = k
  · subst e; simp [List.getD, hk]
  · rw [if_neg e]
    simp [List.getD, show ¬ k = i by omega]

theorem SortSt.put {w : World} {gt gf b1 b2 ct cf m : Nat} {P B : List (Int × Int)} (h : SortSt w gt gf b1 b2 ct cf m P B) (d : gt ≠ b1 ∧ gt ≠ b2 ∧ gf ≠ b1 ∧ gf ≠ b2 ∧ b1 ≠ b2) {k : Nat} (hk : k < m) (p : Int × Int) :
    SortSt ((w.setCell ⟨b1, k, none⟩ (.int .i64 p.1)).setCell ⟨b2, k, none⟩ (.int .i64 p.2)) gt gf b1 b2 ct cf m P (B.set k p) := by
  obtain ⟨d1, d2, d3, d4, d5⟩ := d
  have hl := h.lb
  refine ⟨h.lp, by simpa using h.lb, ?_, ?_, ?_, ?_⟩
  · exact h.o1.keep fun g hg _ => by simp at hg; subst hg; rw [Below.heap_setCell _ _ _ _ d2, Below.heap_setCell _ _ _ _ d1]
  · exact h.o2.keep fun g hg _ => by simp at hg; subst hg; rw [Below.heap_setCell _ _ _ _ d4, Below.heap_setCell _ _ _ _ d3]
  · refine ((h.r1.set k _).setOther (by simpa using d5) _).congr fun i _ => ?_
    rw [getD_set B k i p (by omega)]
    split <;> rfl
  · refine ((h.r2.setOther (by simpa using d5.symm) _).set k _).congr fun i _ => ?_
    rw [getD_set B k i p (by omega)]
    split <;> rfl

theorem SortSt.copy {w : World} {gt gf b1 b2 ct cf m : Nat} {P B : List (Int × Int)} (h : SortSt w gt gf b1 b2 ct cf m P B) (d : gt ≠ b1 ∧ gt ≠ b2 ∧ gf ≠ b1 ∧ gf ≠ b2 ∧ gt ≠ gf) {k : Nat} (p : Int × Int) :
    SortSt ((w.setCell ⟨gt, k, none⟩ (.int .i64 p.1)).setCell ⟨gf, k, none⟩ (.int .i64 p.2)) gt gf b1 b2 ct cf m (P.set k p) B := by
  obtain ⟨d1, d2, d3, d4, d5⟩ := d
  refine ⟨by simpa using h.lp, h.lb, ?_, ?_, ?_, ?_⟩
  · have := own_set h.o1 k p.1
    rw [← List.map_set (f := Prod.fst)] at this
    exact this.keep fun g hg _ => by simp at hg; subst hg; exact Below.heap_setCell _ _ _ _ d5
  · have h2 : OwnInts (w.setCell ⟨gt, k, none⟩ (.int .i64 p.1)) (some ⟨gf, 0, none⟩) cf (P.map Prod.snd) := h.o2.keep fun g hg _ => by simp at hg; subst hg; exact Below.heap_setCell _ _ _ _ d5.symm
    have := own_set h2 k p.2
    rw [← List.map_set (f := Prod.snd)] at this
    exact this
  · exact (h.r1.setOther (by simpa using d1.symm) _).setOther (by simpa using d3.symm) _
  · exact (h.r2.setOther (by simpa using d2.symm) _).setOther (by simpa using d4.symm) _

theorem SortSt.drawn {w : World} {gt gf b1 b2 ct cf m : Nat} {P B : List (Int × Int)} (h : SortSt w gt gf b1 b2 ct cf m P B) (n : Nat) : SortSt (w.drewN n) gt gf b1 b2 ct cf m P B :=
  ⟨h.lp, h.lb, h.o1.keep (fun _ _ _ => rfl), h.o2.keep (fun _ _ _ => rfl), h.r1.of_block rfl, h.r2.of_block rfl⟩

theorem Only.drawn {S : Nat → Prop} {a w : World} (h : Only S a w) (n : Nat) : Only S a (w.drewN n) := ⟨h.os, h.tape, h.output, h.size, h.block⟩

end Go.Proofs.Qxb6617182a
