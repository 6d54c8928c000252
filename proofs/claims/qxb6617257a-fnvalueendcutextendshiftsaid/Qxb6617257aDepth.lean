/-
  SEAT b6617257a: the plain mathematics of valueEnd. Nothing of the model is used.
-/
import Derived.Test.Qxb6617257aPlain
import Derived.Test.Qxb6617257aSpace
namespace Go.Proofs.Qxb6617257a

theorem sc_le {l : List Int} {e : Nat} (h : sc l = some e) : 1 ≤ e ∧ e ≤ l.length :=
  ⟨(sc_pos _ l (Nat.le_refl _) e h).1, (sc_pos _ l (Nat.le_refl _) e h).2.1⟩

/-- How far on the object or the array ends, 'd' of them being open; 'n' bounds the steps. -/
def dscF : Nat → List Int → Nat → Option Nat
  | 0, _, _ => none
  | _ + 1, [], _ => none
  | n + 1, x :: r, d =>
    if x = 123 ∨ x = 91 then (dscF n r (d + 1)).map (· + 1)
    else if x = 125 ∨ x = 93 then (if d = 1 then some 1 else (dscF n r (d - 1)).map (· + 1))
    else if x = 34 then (match sc r with | none => none | some e => (dscF n (r.drop e) d).map (· + (e + 1)))
    else (dscF n r d).map (· + 1)

/-- The bound is of no weight where it is not below the length. -/
theorem dscF_more : ∀ (n : Nat) (l : List Int), l.length ≤ n → ∀ m, l.length ≤ m → ∀ d, dscF n l d = dscF m l d := by
  intro n
  induction n with
  | zero =>
    intro l hl m _ d
    rw [List.eq_nil_of_length_eq_zero (show l.length = 0 by omega)]
    cases m <;> rfl
  | succ n ih =>
    intro l hl m hm d
    match l, hl, hm with
    | [], _, _ => cases m <;> rfl
    | x :: r, hl, hm =>
      rw [List.length_cons] at hl hm
      obtain ⟨m', rfl⟩ : ∃ m', m = m' + 1 := ⟨m - 1, by omega⟩
      have e1 : ∀ d', dscF n r d' = dscF m' r d' := fun d' => ih r (by omega) m' (by omega) d'
      have e2 : ∀ e d', dscF n (r.drop e) d' = dscF m' (r.drop e) d' := fun e d' => ih (r.drop e) (by rw [List.length_drop]; omega) m' (by rw [List.length_drop]; omega) d'
      show (if x = 123 ∨ x = 91 then (dscF n r (d + 1)).map (· + 1)
        else if x = 125 ∨ x = 93 then (if d = 1 then some 1 else (dscF n r (d - 1)).map (· + 1))
        else if x = 34 then (match sc r with | none => none | some e => (dscF n (r.drop e) d).map (· + (e + 1)))
        else (dscF n r d).map (· + 1)) = _
      rw [e1, e1, e1]
      cases hs : sc r with
      | none => rw [dscF, hs]
      | some e => rw [dscF, hs]; simp only [e2]

/-- How far on the object or the array ends, 'd' of them being open. -/
def dsc (l : List Int) (d : Nat) : Option Nat := dscF l.length l d

theorem dsc_nil (d : Nat) : dsc [] d = none := rfl
theorem dsc_cons (x : Int) (r : List Int) (d : Nat) : dsc (x :: r) d =
    if x = 123 ∨ x = 91 then (dsc r (d + 1)).map (· + 1)
    else if x = 125 ∨ x = 93 then (if d = 1 then some 1 else (dsc r (d - 1)).map (· + 1))
    else if x = 34 then (match sc r with | none => none | some e => (dsc (r.drop e) d).map (· + (e + 1)))
    else (dsc r d).map (· + 1) := by
  have e2 : ∀ e, dsc (r.drop e) d = dscF r.length (r.drop e) d := fun e => dscF_more _ _ (Nat.le_refl _) _ (by rw [List.length_drop]; omega) d
  cases hs : sc r with
  | none => unfold dsc; rw [List.length_cons, dscF, hs]
  | some e =>
    simp only [e2]
    unfold dsc
    rw [List.length_cons, dscF, hs]
theorem dsc_open (x : Int) (r : List Int) (d : Nat) (h : x = 123 ∨ x = 91) : dsc (x :: r) d = (dsc r (d + 1)).map (· + 1) := by rw [dsc_cons, if_pos h]
theorem dsc_last (x : Int) (r : List Int) (h : x = 125 ∨ x = 93) : dsc (x :: r) 1 = some 1 := by rw [dsc_cons, if_neg (by omega), if_pos h, if_pos rfl]
theorem dsc_close (x : Int) (r : List Int) (d : Nat) (h : x = 125 ∨ x = 93) (hd : d ≠ 1) : dsc (x :: r) d = (dsc r (d - 1)).map (· + 1) := by rw [dsc_cons, if_neg (by omega), if_pos h, if_neg hd]
theorem dsc_strNone (r : List Int) (d : Nat) (h : sc r = none) : dsc (34 :: r) d = none := by
  rw [dsc_cons, if_neg (by omega), if_neg (by omega), if_pos rfl, h]
theorem dsc_strSome (r : List Int) (d e : Nat) (h : sc r = some e) : dsc (34 :: r) d = (dsc (r.drop e) d).map (· + (e + 1)) := by
  rw [dsc_cons, if_neg (by omega), if_neg (by omega), if_pos rfl, h]
theorem dsc_other (x : Int) (r : List Int) (d : Nat) (h1 : ¬ (x = 123 ∨ x = 91)) (h2 : ¬ (x = 125 ∨ x = 93)) (h3 : x ≠ 34) : dsc (x :: r) d = (dsc r d).map (· + 1) := by
  rw [dsc_cons, if_neg h1, if_neg h2, if_neg h3]

theorem map_add {o : Option Nat} {n e : Nat} (h : o.map (· + n) = some e) : ∃ e', o = some e' ∧ e = e' + n := by
  obtain ⟨e', h1, h2⟩ := Option.map_eq_some_iff.1 h
  exact ⟨e', h1, h2.symm⟩

theorem map_none {o : Option Nat} {n : Nat} (h : o.map (· + n) = none) : o = none := by
  cases o with
  | none => rfl
  | some _ => cases h

theorem dsc_pos : ∀ (n : Nat) (l : List Int), l.length ≤ n → ∀ d e, dsc l d = some e → 1 ≤ e ∧ e ≤ l.length := by
  intro n
  induction n with
  | zero =>
    intro l hl d e h
    rw [List.eq_nil_of_length_eq_zero (show l.length = 0 by omega), dsc_nil] at h
    cases h
  | succ n ih =>
    intro l hl d e h
    match l, hl, h with
    | [], _, h => rw [dsc_nil] at h; cases h
    | x :: r, hl, h =>
      rw [List.length_cons] at hl ⊢
      by_cases h1 : x = 123 ∨ x = 91
      · rw [dsc_open x r d h1] at h
        obtain ⟨e', h', rfl⟩ := map_add h
        have := ih r (by omega) _ e' h'
        omega
      · by_cases h2 : x = 125 ∨ x = 93
        · by_cases hd : d = 1
          · subst hd
            rw [dsc_last x r h2] at h
            cases h
            omega
          · rw [dsc_close x r d h2 hd] at h
            obtain ⟨e', h', rfl⟩ := map_add h
            have := ih r (by omega) _ e' h'
            omega
        · by_cases h3 : x = 34
          · subst h3
            cases hs : sc r with
            | none => rw [dsc_strNone r d hs] at h; cases h
            | some e1 =>
              rw [dsc_strSome r d e1 hs] at h
              obtain ⟨e', h', rfl⟩ := map_add h
              have b := sc_le hs
              have := ih (r.drop e1) (by rw [List.length_drop]; omega) _ e' h'
              rw [List.length_drop] at this
              omega
          · rw [dsc_other x r d h1 h2 h3] at h
            obtain ⟨e', h', rfl⟩ := map_add h
            have := ih r (by omega) _ e' h'
            omega

theorem dsc_append : ∀ (n : Nat) (l m : List Int), l.length ≤ n → ∀ d, (∀ e, dsc l d = some e → dsc (l ++ m) d = some e) ∧ (dsc l d = none → ∀ e, dsc (l ++ m) d = some e → l.length < e) := by
  intro n
  induction n with
  | zero =>
    intro l m hl d
    rw [List.eq_nil_of_length_eq_zero (show l.length = 0 by omega), dsc_nil]
    refine ⟨(fun e h => by cases h), fun _ e h => ?_⟩
    have := (dsc_pos _ _ (Nat.le_refl _) _ e h).1
    simp; omega
  | succ n ih =>
    intro l m hl d
    match l, hl with
    | [], _ =>
      rw [dsc_nil]
      refine ⟨(fun e h => by cases h), fun _ e h => ?_⟩
      have := (dsc_pos _ _ (Nat.le_refl _) _ e h).1
      simp; omega
    | x :: r, hl =>
      rw [List.length_cons] at hl ⊢
      rw [List.cons_append]
      have step : ∀ d', (∀ e, (dsc r d').map (· + 1) = some e → (dsc (r ++ m) d').map (· + 1) = some e) ∧ ((dsc r d').map (· + 1) = none → ∀ e, (dsc (r ++ m) d').map (· + 1) = some e → r.length + 1 < e) := by
        intro d'
        obtain ⟨i1, i2⟩ := ih r m (by omega) d'
        constructor
        · intro e h
          obtain ⟨e', h', rfl⟩ := map_add h
          rw [i1 e' h']; rfl
        · intro h e he
          obtain ⟨e', h', rfl⟩ := map_add he
          have := i2 (map_none h) e' h'
          omega
      by_cases h1 : x = 123 ∨ x = 91
      · rw [dsc_open x r d h1, dsc_open x (r ++ m) d h1]
        exact step _
      · by_cases h2 : x = 125 ∨ x = 93
        · by_cases hd : d = 1
          · subst hd
            rw [dsc_last x r h2, dsc_last x (r ++ m) h2]
            exact ⟨fun e h => h, (fun h => by cases h)⟩
          · rw [dsc_close x r d h2 hd, dsc_close x (r ++ m) d h2 hd]
            exact step _
        · by_cases h3 : x = 34
          · subst h3
            obtain ⟨s1, s2⟩ := sc_append _ r m (Nat.le_refl _)
            cases hs : sc r with
            | none =>
              rw [dsc_strNone r d hs]
              refine ⟨(fun e h => by cases h), fun _ e h => ?_⟩
              cases hs2 : sc (r ++ m) with
              | none => rw [dsc_strNone _ d hs2] at h; cases h
              | some e1 =>
                rw [dsc_strSome _ d e1 hs2] at h
                obtain ⟨e', h', rfl⟩ := map_add h
                have := s2 hs e1 hs2
                omega
            | some e1 =>
              have b := sc_le hs
              rw [dsc_strSome r d e1 hs, dsc_strSome (r ++ m) d e1 (s1 e1 hs), List.drop_append_of_le_length b.2]
              obtain ⟨i1, i2⟩ := ih (r.drop e1) m (by rw [List.length_drop]; omega) d
              constructor
              · intro e h
                obtain ⟨e', h', rfl⟩ := map_add h
                rw [i1 e' h']; rfl
              · intro h e he
                obtain ⟨e', h', rfl⟩ := map_add he
                have := i2 (map_none h) e' h'
                rw [List.length_drop] at this
                omega
          · rw [dsc_other x r d h1 h2 h3, dsc_other x (r ++ m) d h1 h2 h3]
            exact step _

/-- How many stand ahead of what ends a plain value. -/
def tw : List Int → Nat
  | [] => 0
  | x :: r => if ends x = true then 0 else tw r + 1

theorem tw_le : ∀ l : List Int, tw l ≤ l.length
  | [] => Nat.le_refl _
  | x :: r => by
    have := tw_le r
    unfold tw
    split
    · omega
    · rw [List.length_cons]; omega

theorem tw_take : ∀ l : List Int, tw (l.take (tw l)) = tw l
  | [] => rfl
  | x :: r => by
    by_cases h : ends x = true
    · simp [tw, h]
    · have := tw_take r
      simp [tw, h, this]

theorem tw_append_lt : ∀ (l m : List Int), tw l < l.length → tw (l ++ m) = tw l
  | [], _ => fun h => by simp at h
  | x :: r, m => fun hlt => by
    by_cases h : ends x = true
    · simp [tw, h]
    · have := tw_append_lt r m (by simp [tw, h] at hlt; exact hlt)
      simp [tw, h, this]

theorem tw_append_ge : ∀ (l m : List Int), tw l ≤ tw (l ++ m)
  | [], _ => Nat.zero_le _
  | x :: r, m => by
    by_cases h : ends x = true
    · simp [tw, h]
    · have := tw_append_ge r m
      simp [tw, h]; exact this

/-- How far on the value ends that begins here. -/
def vr : List Int → Option Nat
  | [] => none
  | x :: r => if x = 34 then (sc r).map (· + 1) else if x = 123 ∨ x = 91 then dsc (x :: r) 0 else if tw (x :: r) = 0 then none else some (tw (x :: r))

theorem opens_iff (x : Int) : opens x = true ↔ x = 34 ∨ x = 123 ∨ x = 91 := by
  simp [opens, or_assoc]

theorem vr_str (r : List Int) : vr (34 :: r) = (sc r).map (· + 1) := by rw [vr, if_pos rfl]
theorem vr_deep (x : Int) (r : List Int) (h : x = 123 ∨ x = 91) : vr (x :: r) = dsc (x :: r) 0 := by rw [vr, if_neg (by omega), if_pos h]
theorem vr_bare (x : Int) (r : List Int) (h : ¬ (x = 34 ∨ x = 123 ∨ x = 91)) : vr (x :: r) = if tw (x :: r) = 0 then none else some (tw (x :: r)) := by
  rw [vr, if_neg (by omega), if_neg (by omega)]

theorem vr_pos {l : List Int} {e : Nat} (h : vr l = some e) : 1 ≤ e ∧ e ≤ l.length := by
  cases l with
  | nil => cases h
  | cons x r =>
    by_cases h1 : x = 34
    · subst h1
      rw [vr_str] at h
      obtain ⟨e', h', rfl⟩ := map_add h
      have := sc_le h'
      rw [List.length_cons]; omega
    · by_cases h2 : x = 123 ∨ x = 91
      · rw [vr_deep x r h2] at h
        exact dsc_pos _ _ (Nat.le_refl _) _ e h
      · rw [vr_bare x r (by omega)] at h
        have := tw_le (x :: r)
        split at h
        · cases h
        · cases h; omega

/-- More behind it, where the value has an end of its own. -/
theorem vr_append_open {x : Int} {r : List Int} (m : List Int) (h : x = 34 ∨ x = 123 ∨ x = 91) :
    (∀ e, vr (x :: r) = some e → vr (x :: r ++ m) = some e) ∧ (vr (x :: r) = none → ∀ e, vr (x :: r ++ m) = some e → (x :: r).length < e) := by
  by_cases h1 : x = 34
  · subst h1
    rw [List.cons_append, vr_str, vr_str]
    obtain ⟨s1, s2⟩ := sc_append _ r m (Nat.le_refl _)
    constructor
    · intro e h
      obtain ⟨e', h', rfl⟩ := map_add h
      rw [s1 e' h']; rfl
    · intro h e he
      obtain ⟨e', h', rfl⟩ := map_add he
      have := s2 (map_none h) e' h'
      rw [List.length_cons]; omega
  · have h2 : x = 123 ∨ x = 91 := by omega
    have := dsc_append _ (x :: r) m (Nat.le_refl _) 0
    rw [List.cons_append] at this
    rw [List.cons_append, vr_deep x r h2, vr_deep x (r ++ m) h2]
    exact this

theorem vr_append_lt {l : List Int} (m : List Int) {e : Nat} (h : vr l = some e) (he : e < l.length) : vr (l ++ m) = some e := by
  cases l with
  | nil => cases h
  | cons x r =>
    by_cases h1 : x = 34 ∨ x = 123 ∨ x = 91
    · exact (vr_append_open m h1).1 e h
    · rw [vr_bare x r h1] at h
      rw [List.cons_append, vr_bare x (r ++ m) h1, ← List.cons_append]
      split at h
      · cases h
      · rename_i hn
        cases h
        rw [tw_append_lt (x :: r) m he, if_neg hn]

theorem vr_append_ge {l : List Int} (m : List Int) {e : Nat} (h : vr l = some e) : ∃ e', vr (l ++ m) = some e' ∧ e ≤ e' := by
  cases l with
  | nil => cases h
  | cons x r =>
    by_cases h1 : x = 34 ∨ x = 123 ∨ x = 91
    · exact ⟨e, (vr_append_open m h1).1 e h, Nat.le_refl _⟩
    · rw [vr_bare x r h1] at h
      rw [List.cons_append, vr_bare x (r ++ m) h1, ← List.cons_append]
      have := tw_append_ge (x :: r) m
      split at h
      · cases h
      · rename_i hn
        cases h
        exact ⟨_, if_neg (by omega), this⟩

theorem vr_none_bare {x : Int} {r : List Int} (m : List Int) (h1 : ¬ (x = 34 ∨ x = 123 ∨ x = 91)) (h : vr (x :: r) = none) : vr (x :: r ++ m) = none := by
  rw [vr_bare x r h1] at h
  rw [List.cons_append, vr_bare x (r ++ m) h1]
  split at h
  · rename_i hn
    have he : ends x = true := by
      cases hx : ends x with
      | true => rfl
      | false => rw [tw, hx] at hn; simp at hn
    rw [tw, if_pos he, if_pos rfl]
  · cases h

theorem vr_cut {l : List Int} {e : Nat} (h : vr l = some e) : vr (l.take e) = some e := by
  obtain ⟨b1, b2⟩ := vr_pos h
  cases l with
  | nil => cases h
  | cons x r =>
    by_cases h1 : x = 34 ∨ x = 123 ∨ x = 91
    · have ht : (x :: r).take e = x :: r.take (e - 1) := by
        obtain ⟨f, rfl⟩ : ∃ f, e = f + 1 := ⟨e - 1, by omega⟩
        rfl
      have hs : (x :: r.take (e - 1)) ++ r.drop (e - 1) = x :: r := by simp
      obtain ⟨s1, s2⟩ := vr_append_open (r := r.take (e - 1)) (r.drop (e - 1)) h1
      rw [hs] at s1 s2
      rw [ht]
      rw [List.length_cons] at b2
      cases hv : vr (x :: r.take (e - 1)) with
      | none =>
        have := s2 hv e h
        rw [List.length_cons, List.length_take] at this
        omega
      | some e' =>
        have := s1 e' hv
        rw [h] at this
        exact this.symm
    · rw [vr_bare x r h1] at h
      split at h
      · cases h
      · rename_i hn
        cases h
        have ht := tw_take (x :: r)
        obtain ⟨f, hf⟩ : ∃ f, tw (x :: r) = f + 1 := ⟨tw (x :: r) - 1, by omega⟩
        rw [hf] at ht ⊢
        rw [List.take_succ_cons] at ht ⊢
        rw [vr_bare x _ h1, ht, if_neg (by omega)]

/-- Where the value ends that begins at i. -/
def valEnd (zs : List Int) (i : Nat) : Int := tell i (vr (zs.drop i))
end Go.Proofs.Qxb6617257a
