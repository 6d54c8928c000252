/-
  SEAT b6617182a: the plain mathematics of the bottom-up merge sort. Nothing of the program, nothing of the model.
-/
import Derived.Test.Qxb6617182aCount
namespace Go.Proofs.Qxb6617182a

/-- The order of the arrows: by to, then by from. -/
def leP (a b : Int × Int) : Bool := decide (a.1 < b.1) || (decide (a.1 = b.1) && decide (a.2 ≤ b.2))

theorem leP_iff {a b : Int × Int} : leP a b = true ↔ a.1 < b.1 ∨ (a.1 = b.1 ∧ a.2 ≤ b.2) := by simp [leP]

theorem leP_trans (a b c : Int × Int) (h1 : leP a b = true) (h2 : leP b c = true) : leP a c = true := by
  rw [leP_iff] at *
  omega

theorem leP_total (a b : Int × Int) : (leP a b || leP b a) = true := by
  rw [Bool.or_eq_true, leP_iff, leP_iff]
  omega

theorem leP_antisymm (a b : Int × Int) (h1 : leP a b = true) (h2 : leP b a = true) : a = b := by
  rw [leP_iff] at h1 h2
  exact Prod.ext (by omega) (by omega)

/-- One pass: blocks of two times w, each merged out of its halves. -/
def pass (w : Nat) : Nat → List (Int × Int) → List (Int × Int)
  | 0, _ => []
  | f + 1, P => if P = [] then [] else (P.take w).merge ((P.drop w).take w) leP ++ pass w f (P.drop (2 * w))

theorem pass_nil (w f : Nat) : pass w f [] = [] := by cases f <;> simp [pass]

theorem pass_perm (w : Nat) (hw : 0 < w) (f : Nat) : ∀ P : List (Int × Int), P.length ≤ f → (pass w f P).Perm P := by
  induction f with
  | zero =>
    intro P h
    have hP : P = [] := List.eq_nil_of_length_eq_zero (by omega)
    subst hP
    exact List.Perm.refl _
  | succ f ih =>
    intro P h
    by_cases hP : P = []
    · subst hP; simp [pass]
    · have hl : 0 < P.length := List.length_pos_iff.2 hP
      rw [pass, if_neg hP]
      have h1 := List.merge_perm_append leP (xs := P.take w) (ys := (P.drop w).take w)
      have h2 := ih (P.drop (2 * w)) (by simp; omega)
      refine (h1.append h2).trans ?_
      have e : P.drop (2 * w) = (P.drop w).drop w := by rw [List.drop_drop]; congr 1; omega
      rw [e, List.append_assoc, List.take_append_drop, List.take_append_drop]

/-- Every block of w is in order. -/
def BS (w : Nat) (P : List (Int × Int)) : Prop := ∀ i, ((P.drop (i * w)).take w).Pairwise fun a b => leP a b = true

theorem BS_one (P : List (Int × Int)) : BS 1 P := by
  intro i
  match P.drop (i * 1) with
  | [] => exact List.Pairwise.nil
  | x :: l => simp

theorem BS_drop {w : Nat} {P : List (Int × Int)} (h : BS w P) (k : Nat) : BS w (P.drop (k * w)) := by
  intro i
  have := h (k + i)
  rw [List.drop_drop, ← Nat.add_mul]
  exact this

theorem pass_BS (w : Nat) (f : Nat) : ∀ P : List (Int × Int), BS w P → BS (2 * w) (pass w f P) := by
  induction f with
  | zero => intro P _ i; simp [pass]
  | succ f ih =>
    intro P h i
    by_cases hP : P = []
    · subst hP; simp [pass]
    rw [pass, if_neg hP]
    have hm : ((P.take w).merge ((P.drop w).take w) leP).Pairwise fun a b => leP a b = true := by
      refine List.pairwise_merge leP_trans leP_total _ _ ?_ ?_
      · have := h 0; simpa using this
      · have := h 1; simpa using this
    have hlen : ((P.take w).merge ((P.drop w).take w) leP).length = min w P.length + min w (P.length - w) := by
      rw [List.length_merge, List.length_take, List.length_take, List.length_drop]
    have hrec := ih (P.drop (2 * w)) (BS_drop h 2)
    obtain ⟨M, hM⟩ : ∃ M, M = (P.take w).merge ((P.drop w).take w) leP := ⟨_, rfl⟩
    rw [← hM] at hm hlen ⊢
    by_cases hfull : 2 * w ≤ P.length
    · have hl : M.length = 2 * w := by omega
      cases i with
      | zero =>
        rw [Nat.zero_mul, List.drop_zero, List.take_append_of_le_length (by omega), List.take_of_length_le (by omega)]
        exact hm
      | succ i =>
        have e : (i + 1) * (2 * w) = M.length + i * (2 * w) := by rw [hl, Nat.add_mul]; omega
        rw [e, List.drop_length_add_append]
        exact hrec i
    · have hd : P.drop (2 * w) = [] := List.drop_eq_nil_of_le (by omega)
      rw [hd, pass_nil, List.append_nil]
      have hsub : ((M.drop (i * (2 * w))).take (2 * w)).Sublist M := (List.take_sublist _ _).trans (List.drop_sublist _ _)
      exact hm.sublist hsub

theorem BS_done {w : Nat} {P : List (Int × Int)} (h : BS w P) (hl : P.length ≤ w) : P.Pairwise fun a b => leP a b = true := by
  have := h 0
  rw [Nat.zero_mul, List.drop_zero, List.take_of_length_le hl] at this
  exact this

/-- Sorted, and the same arrows: the same list. -/
theorem sorted_eq {P Q : List (Int × Int)} (hp : P.Perm Q) (h1 : P.Pairwise fun a b => leP a b = true) (h2 : Q.Pairwise fun a b => leP a b = true) : P = Q :=
  List.Perm.eq_of_pairwise (fun a b _ _ => leP_antisymm a b) h1 h2 hp

/-! ### The arrows as lawIsTranspose gathers them, and as they must come out -/

/-- The arrows of the first k rows, as (to, from). -/
def arrs (Z : Nat → List Int) : Nat → List (Int × Int)
  | 0 => []
  | k + 1 => arrs Z k ++ (Z k).map fun x => (x, (k : Int))

/-- The lists against the arrows, one behind the other. -/
def outs (Z : Nat → List Int) (n : Nat) : Nat → List (Int × Int)
  | 0 => []
  | k + 1 => outs Z n k ++ (srcs Z (k : Int) n).map fun u => ((k : Int), u)

theorem arrs_length (Z : Nat → List Int) (k : Nat) : (arrs Z k).length = (flat Z k).length := by
  induction k with
  | zero => rfl
  | succ k ih => simp [arrs, flat, ih]

theorem count_map_pair_left (l : List Int) (v x y : Int) : (l.map fun z => (z, v)).count (x, y) = if v = y then l.count x else 0 := by
  induction l with
  | nil => simp
  | cons z l ih =>
    rw [List.map_cons, List.count_cons, ih, List.count_cons]
    by_cases h1 : v = y
    · subst h1
      by_cases h2 : z = x
      · subst h2; simp
      · have : ((z, v) == (x, v)) = false := by simp [h2]
        have h3 : (z == x) = false := by simp [h2]
        simp [this, h3]
    · have : ((z, v) == (x, y)) = false := by simp [h1]
      simp [this, h1]

theorem count_map_pair_right (l : List Int) (v x y : Int) : (l.map fun z => (v, z)).count (x, y) = if v = x then l.count y else 0 := by
  induction l with
  | nil => simp
  | cons z l ih =>
    rw [List.map_cons, List.count_cons, ih, List.count_cons]
    by_cases h1 : v = x
    · subst h1
      by_cases h2 : z = y
      · subst h2; simp
      · have : ((v, z) == (v, y)) = false := by simp [h2]
        have h3 : (z == y) = false := by simp [h2]
        simp [this, h3]
    · have : ((v, z) == (x, y)) = false := by simp [h1]
      simp [this, h1]

theorem count_arrs (Z : Nat → List Int) (x y : Int) (k : Nat) : (arrs Z k).count (x, y) = (srcs Z x k).count y := by
  induction k with
  | zero => simp [arrs, srcs]
  | succ k ih =>
    rw [arrs, srcs, List.count_append, List.count_append, ih, count_map_pair_left, List.count_replicate]
    by_cases h : (k : Int) = y
    · simp [h]
    · have : ((k : Int) == y) = false := by simp [h]
      simp [h]

theorem count_outs (Z : Nat → List Int) (n : Nat) (x y : Int) (k : Nat) : (outs Z n k).count (x, y) = if 0 ≤ x ∧ x < k then (srcs Z x n).count y else 0 := by
  induction k with
  | zero =>
    rw [if_neg (by omega)]; simp [outs]
  | succ k ih =>
    rw [outs, List.count_append, ih, count_map_pair_right]
    by_cases h : (k : Int) = x
    · rw [if_neg (by omega), if_pos h, if_pos (by omega), h]; simp
    · rw [if_neg h]
      by_cases h2 : 0 ≤ x ∧ x < k
      · rw [if_pos h2, if_pos (by omega)]; rfl
      · rw [if_neg h2, if_neg (by omega)]

theorem srcs_nil (Z : Nat → List Int) (x : Int) (n k : Nat) (hk : k ≤ n) (h : ∀ r, r < n → ¬ x ∈ Z r) : srcs Z x k = [] := by
  induction k with
  | zero => rfl
  | succ k ih => rw [srcs, ih (by omega), List.count_eq_zero.2 (h k (by omega))]; simp

theorem arrs_perm_outs (Z : Nat → List Int) (n : Nat) (hin : ∀ r, r < n → ∀ x ∈ Z r, 0 ≤ x ∧ x < n) : (arrs Z n).Perm (outs Z n n) := by
  rw [List.perm_iff_count]
  rintro ⟨x, y⟩
  rw [count_arrs, count_outs]
  by_cases h : 0 ≤ x ∧ x < n
  · rw [if_pos h]
  · rw [if_neg h, srcs_nil Z x n n (Nat.le_refl _) (fun r hr hx => h (hin r hr x hx))]; simp

theorem srcs_le (Z : Nat → List Int) (x : Int) (k : Nat) : (srcs Z x k).Pairwise (· ≤ ·) ∧ ∀ y ∈ srcs Z x k, y < k := by
  induction k with
  | zero => simp [srcs]
  | succ k ih =>
    rw [srcs]
    refine ⟨List.pairwise_append.2 ⟨ih.1, ?_, fun a ha b hb => ?_⟩, fun y hy => ?_⟩
    · exact List.pairwise_replicate.2 (Or.inr (Int.le_refl _))
    · have := ih.2 a ha
      have hb' := (List.mem_replicate.1 hb).2
      omega
    · rcases List.mem_append.1 hy with h | h
      · have := ih.2 y h; omega
      · have := (List.mem_replicate.1 h).2; omega

theorem pairs_sorted (k : Int) : ∀ l : List Int, l.Pairwise (· ≤ ·) → (l.map fun u => (k, u)).Pairwise fun a b => leP a b = true := by
  intro l
  induction l with
  | nil => intro _; exact List.Pairwise.nil
  | cons x l ih =>
    intro h
    rw [List.pairwise_cons] at h
    rw [List.map_cons, List.pairwise_cons]
    refine ⟨fun b hb => ?_, ih h.2⟩
    obtain ⟨u, hu, rfl⟩ := List.mem_map.1 hb
    rw [leP_iff]
    exact Or.inr ⟨rfl, h.1 u hu⟩

theorem outs_sorted (Z : Nat → List Int) (n k : Nat) : (outs Z n k).Pairwise (fun a b => leP a b = true) ∧ ∀ p ∈ outs Z n k, p.1 < k := by
  induction k with
  | zero => simp [outs]
  | succ k ih =>
    rw [outs]
    refine ⟨List.pairwise_append.2 ⟨ih.1, ?_, fun a ha b hb => ?_⟩, fun p hp => ?_⟩
    · exact pairs_sorted (k : Int) _ (srcs_le Z k n).1
    · have := ih.2 a ha
      obtain ⟨u, _, rfl⟩ := List.mem_map.1 hb
      rw [leP_iff]; exact Or.inl this
    · rcases List.mem_append.1 hp with h | h
      · have := ih.2 p h; omega
      · obtain ⟨u, _, rfl⟩ := List.mem_map.1 h
        show (k : Int) < ((k + 1 : Nat) : Int)
        omega

end Go.Proofs.Qxb6617182a
