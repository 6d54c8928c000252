/-
  SEAT b6617257a: the plain mathematics. Nothing of the program, nothing of the model.
-/
namespace Go.Proofs.Qxb6617257a

/-- How far behind the opening quote the string ends; none where it does not. -/
def sc : List Int → Option Nat
  | [] => none
  | [x] => if x = 34 then some 1 else none
  | x :: y :: r => if x = 92 then (sc r).map (· + 2) else if x = 34 then some 1 else (sc (y :: r)).map (· + 1)

/-- An end as the Go text tells it: where it begins, and how far on. -/
def tell (k : Nat) : Option Nat → Int
  | none => -1
  | some e => (k : Int) + (e : Int)

theorem sc_bs (r : List Int) : sc (92 :: r) = (sc (r.drop 1)).map (· + 2) := by
  cases r with
  | nil => rfl
  | cons y r => simp [sc]

theorem sc_q (r : List Int) : sc (34 :: r) = some 1 := by
  cases r <;> simp [sc]

theorem sc_other (x : Int) (r : List Int) (h1 : x ≠ 92) (h2 : x ≠ 34) : sc (x :: r) = (sc r).map (· + 1) := by
  cases r with
  | nil => simp [sc, h2]
  | cons y r => simp [sc, h1, h2]

theorem tell_map (k n : Nat) (o : Option Nat) : tell k (o.map (· + n)) = tell (k + n) o := by
  cases o with
  | none => rfl
  | some e => simp [tell]; omega

/-- The same end by counting backslashes: 'run' stand ahead. -/
def pr : List Int → Nat → Option Nat
  | [], _ => none
  | x :: r, run => if x = 92 then (pr r (run + 1)).map (· + 1) else if x = 34 ∧ run % 2 = 0 then some 1 else (pr r 0).map (· + 1)

theorem map_map1 (n m : Nat) (o : Option Nat) : (o.map (· + n)).map (· + m) = o.map (· + (n + m)) := by
  cases o with
  | none => rfl
  | some e => simp; omega

theorem pr_sc : ∀ (l : List Int) (run : Nat), (run % 2 = 0 → pr l run = sc l) ∧ (run % 2 = 1 → pr l run = (sc (l.drop 1)).map (· + 1)) := by
  intro l
  induction l with
  | nil => intro run; exact ⟨fun _ => rfl, fun _ => rfl⟩
  | cons x r ih =>
    intro run
    constructor
    · intro he
      by_cases h1 : x = 92
      · subst h1
        rw [sc_bs, pr, if_pos rfl, (ih (run + 1)).2 (by omega), map_map1]
      · by_cases h2 : x = 34
        · subst h2
          rw [sc_q, pr, if_neg (by omega), if_pos ⟨rfl, he⟩]
        · rw [sc_other x r h1 h2, pr, if_neg h1, if_neg (fun h => h2 h.1), (ih 0).1 rfl]
    · intro ho
      show pr (x :: r) run = (sc r).map (· + 1)
      by_cases h1 : x = 92
      · subst h1
        rw [pr, if_pos rfl, (ih (run + 1)).1 (by omega)]
      · rw [pr, if_neg h1, if_neg (fun h => by omega), (ih 0).1 rfl]

/-- Where the string ends that opens at i. -/
def strEnd (zs : List Int) (i : Nat) : Int := if zs.getD i 0 = 34 ∧ i < zs.length then tell (i + 1) (sc (zs.drop (i + 1))) else -1

theorem drop_cons (zs : List Int) (k : Nat) (h : k < zs.length) : zs.drop k = zs.getD k 0 :: zs.drop (k + 1) := by
  rw [List.drop_eq_getElem_cons h]
  simp [List.getD, h]

theorem sc_pos : ∀ (n : Nat) (l : List Int), l.length ≤ n → ∀ e, sc l = some e → 1 ≤ e ∧ e ≤ l.length ∧ l.getD (e - 1) 0 = 34 := by
  intro n
  induction n with
  | zero =>
    intro l hl e h
    rw [List.eq_nil_of_length_eq_zero (show l.length = 0 by omega)] at h
    cases h
  | succ n ih =>
    intro l hl e h
    match l, hl, h with
    | [], _, h => cases h
    | x :: r, hl, h =>
      by_cases h1 : x = 92
      · subst h1
        rw [sc_bs] at h
        obtain ⟨e', h', rfl⟩ := Option.map_eq_some_iff.1 h
        obtain ⟨a1, a2, a3⟩ := ih (r.drop 1) (by simp at hl ⊢; omega) e' h'
        simp at a2 a3 hl ⊢
        refine ⟨by omega, ?_⟩
        have h9 : e' - 1 + 1 = e' := by omega
        have h8 : 1 + (e' - 1) = e' := by omega
        first
          | (rw [h9] at a3; exact a3)
          | (rw [h8] at a3; exact a3)
          | exact a3
      · by_cases h2 : x = 34
        · subst h2
          rw [sc_q] at h
          cases h
          simp
        · rw [sc_other x r h1 h2] at h
          obtain ⟨e', h', rfl⟩ := Option.map_eq_some_iff.1 h
          obtain ⟨a1, a2, a3⟩ := ih r (by simp at hl; omega) e' h'
          simp at a3 hl ⊢
          refine ⟨by omega, ?_⟩
          have : e' = (e' - 1) + 1 := by omega
          rw [this, List.getElem?_cons_succ]
          exact a3

/-- More behind it: an end stays; where there was none, there is none or it lies beyond. -/
theorem sc_append : ∀ (n : Nat) (l m : List Int), l.length ≤ n → (∀ e, sc l = some e → sc (l ++ m) = some e) ∧ (sc l = none → ∀ e, sc (l ++ m) = some e → l.length < e) := by
  intro n
  induction n with
  | zero =>
    intro l m hl
    rw [List.eq_nil_of_length_eq_zero (show l.length = 0 by omega)]
    refine ⟨(fun e h => by cases h), fun _ e h => ?_⟩
    have := (sc_pos m.length m (Nat.le_refl _) e (by simpa using h)).1
    simp; omega
  | succ n ih =>
    intro l m hl
    match l, hl with
    | [], _ =>
      refine ⟨(fun e h => by cases h), fun _ e h => ?_⟩
      have := (sc_pos m.length m (Nat.le_refl _) e (by simpa using h)).1
      simp; omega
    | x :: r, hl =>
      simp at hl
      rw [List.cons_append]
      by_cases h1 : x = 92
      · subst h1
        rw [sc_bs, sc_bs]
        cases r with
        | nil =>
          refine ⟨(fun e h => by cases h), fun _ e h => ?_⟩
          obtain ⟨e', h', rfl⟩ := Option.map_eq_some_iff.1 h
          simp
        | cons y r' =>
          simp only [List.cons_append, List.drop_succ_cons, List.drop_zero]
          obtain ⟨i1, i2⟩ := ih r' m (by simp at hl; omega)
          constructor
          · intro e h
            obtain ⟨e', h', rfl⟩ := Option.map_eq_some_iff.1 h
            rw [i1 e' h']; rfl
          · intro h e he
            obtain ⟨e', h', rfl⟩ := Option.map_eq_some_iff.1 he
            have hn : sc r' = none := by
              cases hr : sc r' with
              | none => rfl
              | some z => rw [hr] at h; cases h
            have := i2 hn e' h'
            simp; omega
      · by_cases h2 : x = 34
        · subst h2
          rw [sc_q, sc_q]
          exact ⟨fun e h => h, (fun h => by cases h)⟩
        · rw [sc_other x r h1 h2, sc_other x (r ++ m) h1 h2]
          obtain ⟨i1, i2⟩ := ih r m (by omega)
          constructor
          · intro e h
            obtain ⟨e', h', rfl⟩ := Option.map_eq_some_iff.1 h
            rw [i1 e' h']; rfl
          · intro h e he
            obtain ⟨e', h', rfl⟩ := Option.map_eq_some_iff.1 he
            have hn : sc r = none := by
              cases hr : sc r with
              | none => rfl
              | some z => rw [hr] at h; cases h
            have := i2 hn e' h'
            simp; omega

end Go.Proofs.Qxb6617257a
