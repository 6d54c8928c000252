/-
  SEAT b6617182a: the plain mathematics of the transposed lists: counts, where each list begins, who leads to whom.
-/
import Derived.Test.Qxb6617182aPlain
import Derived.Test.Qxb6617182aBase
namespace Go.Proofs.Qxb6617182a

/-- The first k rows, one behind the other. -/
def flat (Z : Nat → List Int) : Nat → List Int
  | 0 => []
  | k + 1 => flat Z k ++ Z k

theorem flat_length (Z : Nat → List Int) (k : Nat) : (flat Z k).length = sumTo (fun r => (Z r).length) k := by
  induction k with
  | zero => rfl
  | succ k ih => simp [flat, sumTo, ih]

theorem mem_flat (Z : Nat → List Int) (k : Nat) {x : Int} : x ∈ flat Z k ↔ ∃ r, r < k ∧ x ∈ Z r := by
  induction k with
  | zero => simp [flat]
  | succ k ih =>
    simp only [flat, List.mem_append, ih]
    constructor
    · rintro (⟨r, h1, h2⟩ | h)
      · exact ⟨r, by omega, h2⟩
      · exact ⟨k, by omega, h⟩
    · rintro ⟨r, h1, h2⟩
      by_cases e : r = k
      · subst e; exact Or.inr h2
      · exact Or.inl ⟨r, by omega, h2⟩

theorem sumTo_add (f g : Nat → Nat) (n : Nat) : sumTo (fun x => f x + g x) n = sumTo f n + sumTo g n := by
  induction n with
  | zero => rfl
  | succ n ih => simp only [sumTo, ih]; omega

theorem sumTo_zero (n : Nat) : sumTo (fun _ => 0) n = 0 := by
  induction n with
  | zero => rfl
  | succ n ih => simp only [sumTo, ih]

theorem sumTo_one (y n : Nat) : sumTo (fun x => if x = y then 1 else 0) n = if y < n then 1 else 0 := by
  induction n with
  | zero => simp [sumTo]
  | succ n ih =>
    simp only [sumTo, ih]
    by_cases h1 : y < n
    · rw [if_pos h1, if_neg (by omega), if_pos (by omega)]
    · by_cases h2 : n = y
      · subst h2; simp
      · rw [if_neg h1, if_neg h2, if_neg (by omega)]

/-- Every number below n: the counts add up to the length. -/
theorem sum_counts (n : Nat) : ∀ l : List Int, (∀ y ∈ l, 0 ≤ y ∧ y < n) → sumTo (fun x => l.count (x : Int)) n = l.length := by
  intro l
  induction l with
  | nil => intro _; simpa using sumTo_zero n
  | cons y l ih =>
    intro h
    have e : (fun x : Nat => (y :: l).count (x : Int)) = fun x : Nat => l.count (x : Int) + if x = y.toNat then 1 else 0 := by
      funext x
      rw [List.count_cons]
      have hy := h y (by simp)
      by_cases hx : x = y.toNat
      · have : (y == (x : Int)) = true := by simp; omega
        simp [hx] at this ⊢
        omega
      · have : (y == (x : Int)) = false := by simp; omega
        simp [hx, this]
    rw [e, sumTo_add, ih fun z hz => h z (by simp [hz]), sumTo_one, if_pos (by have := h y (by simp); omega)]
    simp

/-- The rows among the first k that lead to x, once an arrow, ascending. -/
def srcs (Z : Nat → List Int) (x : Int) : Nat → List Int
  | 0 => []
  | k + 1 => srcs Z x k ++ List.replicate ((Z k).count x) (k : Int)

/-- .. and of row k the first j arrows too. -/
def srcsIn (Z : Nat → List Int) (x : Int) (k j : Nat) : List Int := srcs Z x k ++ List.replicate (((Z k).take j).count x) (k : Int)

theorem srcs_length (Z : Nat → List Int) (x : Int) (k : Nat) : (srcs Z x k).length = (flat Z k).count x := by
  induction k with
  | zero => rfl
  | succ k ih => simp [srcs, flat, ih]

theorem srcsIn_length (Z : Nat → List Int) (x : Int) (k j : Nat) : (srcsIn Z x k j).length = (flat Z k ++ (Z k).take j).count x := by
  simp [srcsIn, srcs_length]

theorem srcsIn_zero (Z : Nat → List Int) (x : Int) (k : Nat) : srcsIn Z x k 0 = srcs Z x k := by simp [srcsIn]

theorem srcsIn_all (Z : Nat → List Int) (x : Int) (k j : Nat) (h : (Z k).length ≤ j) : srcsIn Z x k j = srcs Z x (k + 1) := by
  simp only [srcsIn, srcs, List.take_of_length_le h]

theorem srcsIn_hit (Z : Nat → List Int) (k j : Nat) (h : j < (Z k).length) : srcsIn Z ((Z k).getD j 0) k (j + 1) = srcsIn Z ((Z k).getD j 0) k j ++ [(k : Int)] := by
  simp only [srcsIn, take_snoc _ _ h, List.count_append, List.count_singleton_self, List.append_assoc]
  rw [List.replicate_succ']

theorem srcsIn_miss (Z : Nat → List Int) (x : Int) (k j : Nat) (h : j < (Z k).length) (hx : (Z k).getD j 0 ≠ x) : srcsIn Z x k (j + 1) = srcsIn Z x k j := by
  have : [(Z k).getD j 0].count x = 0 := by
    rw [List.count_cons]
    have : ((Z k).getD j 0 == x) = false := by
      rw [beq_eq_false_iff_ne]; exact hx
    rw [this]; rfl
  simp only [srcsIn, take_snoc _ _ h, List.count_append, this, Nat.add_zero]

/-- There is room: the arrow that is at hand is not counted yet. -/
theorem srcsIn_room (Z : Nat → List Int) (n k j : Nat) (hk : k < n) (h : j < (Z k).length) : (srcsIn Z ((Z k).getD j 0) k j).length < (flat Z n).count ((Z k).getD j 0) := by
  have h1 : (srcsIn Z ((Z k).getD j 0) k (j + 1)).length = (srcsIn Z ((Z k).getD j 0) k j).length + 1 := by rw [srcsIn_hit Z k j h]; simp
  have h2 : (srcsIn Z ((Z k).getD j 0) k (j + 1)).length ≤ (flat Z (k + 1)).count ((Z k).getD j 0) := by
    rw [srcsIn_length, flat, List.count_append, List.count_append]
    exact Nat.add_le_add_left ((List.take_sublist _ _).count_le _) _
  have h3 : ∀ m, k + 1 ≤ m → (flat Z (k + 1)).count ((Z k).getD j 0) ≤ (flat Z m).count ((Z k).getD j 0) := by
    intro m hm
    induction hm with
    | refl => exact Nat.le_refl _
    | step _ ih => exact Nat.le_trans ih (by simp only [flat, List.count_append]; omega)
  have := h3 n hk
  omega

theorem srcsIn_le (Z : Nat → List Int) (x : Int) (n k j : Nat) (hk : k < n) : (srcsIn Z x k j).length ≤ (flat Z n).count x := by
  have h2 : (srcsIn Z x k j).length ≤ (flat Z (k + 1)).count x := by
    rw [srcsIn_length, flat, List.count_append, List.count_append]
    exact Nat.add_le_add_left ((List.take_sublist _ _).count_le _) _
  have h3 : ∀ m, k + 1 ≤ m → (flat Z (k + 1)).count x ≤ (flat Z m).count x := by
    intro m hm
    induction hm with
    | refl => exact Nat.le_refl _
    | step _ ih => exact Nat.le_trans ih (by simp only [flat, List.count_append]; omega)
  have := h3 n hk
  omega

end Go.Proofs.Qxb6617182a
