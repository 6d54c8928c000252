/-
  SEAT b6617182a: the plain mathematics. Nothing of the program, nothing of the model.
-/
namespace Go.Proofs.Qxb6617182a

/-- A list grown by x, unless it holds x already. -/
def addNew (acc : List Int) (x : Int) : List Int := if x ∈ acc then acc else acc ++ [x]

/-- The distinct elements in the order of their first place. -/
def firsts (l : List Int) : List Int := l.foldl addNew []

theorem firsts_snoc (l : List Int) (x : Int) : firsts (l ++ [x]) = addNew (firsts l) x := by simp [firsts]

theorem take_snoc (l : List Int) (k : Nat) (h : k < l.length) : l.take (k + 1) = l.take k ++ [l.getD k 0] := by
  rw [List.take_succ_eq_append_getElem h]
  simp [List.getD, h]

theorem firsts_take (l : List Int) (k : Nat) (h : k < l.length) : firsts (l.take (k + 1)) = addNew (firsts (l.take k)) (l.getD k 0) := by
  rw [take_snoc l k h, firsts_snoc]

theorem addNew_len (acc : List Int) (x : Int) : (addNew acc x).length ≤ acc.length + 1 := by
  unfold addNew; split <;> simp

theorem foldl_addNew_len (l : List Int) : ∀ acc, (l.foldl addNew acc).length ≤ acc.length + l.length := by
  induction l with
  | nil => intro acc; simp
  | cons x l ih => intro acc; have := ih (addNew acc x); have := addNew_len acc x; simp; omega

theorem firsts_len (l : List Int) : (firsts l).length ≤ l.length := by
  have := foldl_addNew_len l []
  simpa [firsts] using this

/-- The nodes below k whose row holds v, ascending. -/
def backTo (Z : Nat → List Int) (v : Int) : Nat → List Int
  | 0 => []
  | k + 1 => if v ∈ Z k then backTo Z v k ++ [(k : Int)] else backTo Z v k

theorem backTo_len (Z : Nat → List Int) (v : Int) (k : Nat) : (backTo Z v k).length ≤ k := by
  induction k with
  | zero => simp [backTo]
  | succ k ih =>
    simp only [backTo]
    split
    · simp only [List.length_append, List.length_cons, List.length_nil]; omega
    · omega

/-! ### The walk: the distinct elements that 'ok' takes, of the first m -/

def wl (ok : Int → Bool) (zs : List Int) (m : Nat) : List Int := firsts ((zs.take m).filter ok)

theorem wl_zero (ok : Int → Bool) (zs : List Int) : wl ok zs 0 = [] := by simp [wl, firsts]

theorem wl_succ (ok : Int → Bool) (zs : List Int) (m : Nat) (h : m < zs.length) : wl ok zs (m + 1) = if ok (zs.getD m 0) then addNew (wl ok zs m) (zs.getD m 0) else wl ok zs m := by
  unfold wl
  rw [take_snoc zs m h, List.filter_append]
  cases hx : ok (zs.getD m 0) with
  | true =>
    have e : [zs.getD m 0].filter ok = [zs.getD m 0] := by simp only [List.filter_cons, hx, List.filter_nil, if_true]
    rw [e, firsts_snoc]; simp
  | false =>
    have e : [zs.getD m 0].filter ok = [] := by simp only [List.filter_cons, hx, List.filter_nil]; simp
    rw [e, List.append_nil]; simp

theorem wl_skip (ok : Int → Bool) (zs : List Int) (m p : Nat) (hmp : m ≤ p) (hp : p ≤ zs.length) (h : ∀ q, m ≤ q → q < p → ok (zs.getD q 0) = false ∨ zs.getD q 0 ∈ wl ok zs m) : wl ok zs p = wl ok zs m := by
  induction hmp with
  | refl => rfl
  | step hq ih =>
    rename_i p
    rw [wl_succ ok zs p (by omega), ih (by omega) (fun q h1 h2 => h q h1 (by omega))]
    rcases h p hq (by omega) with hx | hx
    · rw [hx]; simp
    · split
      · unfold addNew; rw [if_pos hx]
      · rfl

theorem mem_addNew {acc : List Int} {x y : Int} : y ∈ addNew acc x ↔ y ∈ acc ∨ y = x := by
  unfold addNew
  by_cases h : x ∈ acc
  · rw [if_pos h]
    constructor
    · exact Or.inl
    · rintro (h' | rfl)
      · exact h'
      · exact h
  · rw [if_neg h]; simp

theorem mem_wl (ok : Int → Bool) (zs : List Int) (m : Nat) (hm : m ≤ zs.length) {y : Int} : y ∈ wl ok zs m ↔ ∃ q, q < m ∧ zs.getD q 0 = y ∧ ok y = true := by
  induction m with
  | zero => simp [wl_zero]
  | succ m ih =>
    rw [wl_succ ok zs m (by omega)]
    constructor
    · intro h
      split at h
      · rename_i hx
        rcases mem_addNew.1 h with h | h
        · obtain ⟨q, h1, h2⟩ := (ih (by omega)).1 h
          exact ⟨q, by omega, h2⟩
        · exact ⟨m, by omega, h.symm, by rw [h]; exact hx⟩
      · obtain ⟨q, h1, h2⟩ := (ih (by omega)).1 h
        exact ⟨q, by omega, h2⟩
    · rintro ⟨q, h1, h2, h3⟩
      by_cases e : q = m
      · subst e
        rw [if_pos (by rw [h2]; exact h3)]
        exact mem_addNew.2 (Or.inr h2.symm)
      · have := (ih (by omega)).2 ⟨q, by omega, h2, h3⟩
        split
        · exact mem_addNew.2 (Or.inl this)
        · exact this

theorem addNew_nodup {acc : List Int} {x : Int} (h : acc.Nodup) : (addNew acc x).Nodup := by
  unfold addNew
  by_cases hx : x ∈ acc
  · rw [if_pos hx]; exact h
  · rw [if_neg hx, List.nodup_append]
    exact ⟨h, by simp, fun a ha b hb e => by simp at hb; subst hb; subst e; exact hx ha⟩

theorem foldl_addNew_nodup (l : List Int) : ∀ acc : List Int, acc.Nodup → (l.foldl addNew acc).Nodup := by
  induction l with
  | nil => intro acc h; exact h
  | cons x l ih => intro acc h; exact ih _ (addNew_nodup h)

theorem wl_nodup (ok : Int → Bool) (zs : List Int) (m : Nat) : (wl ok zs m).Nodup := foldl_addNew_nodup _ _ (by simp)

/-- Distinct numbers below n are at most n. -/
theorem pigeon (n : Nat) : ∀ l : List Int, l.Nodup → (∀ x ∈ l, 0 ≤ x ∧ x < n) → l.length ≤ n := by
  induction n with
  | zero =>
    intro l _ h
    match l with
    | [] => simp
    | x :: _ => have := h x (by simp); omega
  | succ n ih =>
    intro l hnd h
    have h1 : (l.erase (n : Int)).length ≤ n := by
      refine ih _ (hnd.erase _) fun x hx => ?_
      have hm := (hnd.mem_erase_iff).1 hx
      have := h x hm.2
      have hne := hm.1
      omega
    have h2 : l.length ≤ (l.erase (n : Int)).length + 1 := by
      rw [List.length_erase]
      split <;> omega
    omega

end Go.Proofs.Qxb6617182a
