/-
  SEAT b6617257a: FnStringEndPrefixStable (5).
-/
import Derived.Test.Qxb6617257aStr
import Derived.Test.Qxb6617257aZz
import Derived.Test.Qxb6617257aJoin
namespace Go.Proofs.Qxb6617257a
open Go.RowKit Go.Deep

/-- What the law asks of the two ends: there is one, and it stays; or there is none, and then none or beyond. -/
theorem strEnd_two (xs ys : List Int) (j : Nat) (hj : j ≤ xs.length) :
    (∃ e : Nat, strEnd xs j = e ∧ strEnd (xs ++ ys) j = e ∧ j + 2 ≤ e ∧ e ≤ xs.length ∧ xs.getD (e - 1) 0 = 34) ∨
    (strEnd xs j = -1 ∧ (strEnd (xs ++ ys) j = -1 ∨ (xs.length : Int) < strEnd (xs ++ ys) j)) := by
  by_cases hlt : j < xs.length
  · have hg : (xs ++ ys).getD j 0 = xs.getD j 0 := by simp [List.getD, List.getElem?_append_left hlt]
    have hd : (xs ++ ys).drop (j + 1) = xs.drop (j + 1) ++ ys := List.drop_append_of_le_length (by omega)
    by_cases hq : xs.getD j 0 = 34
    · have e1 : strEnd xs j = tell (j + 1) (sc (xs.drop (j + 1))) := by unfold strEnd; rw [if_pos ⟨hq, hlt⟩]
      have e2 : strEnd (xs ++ ys) j = tell (j + 1) (sc (xs.drop (j + 1) ++ ys)) := by unfold strEnd; rw [if_pos ⟨by rw [hg]; exact hq, by simp; omega⟩, hd]
      obtain ⟨a1, a2⟩ := sc_append _ (xs.drop (j + 1)) ys (Nat.le_refl _)
      cases hs : sc (xs.drop (j + 1)) with
      | some e =>
        left
        obtain ⟨b1, b2, b3⟩ := sc_pos _ _ (Nat.le_refl _) e hs
        rw [List.length_drop] at b2
        refine ⟨j + 1 + e, ?_, ?_, by omega, by omega, ?_⟩
        · rw [e1, hs]; simp [tell]
        · rw [e2, a1 e hs]; simp [tell]
        · have : j + 1 + e - 1 = j + 1 + (e - 1) := by omega
          rw [this, ← b3]
          simp [List.getD, List.getElem?_drop]
      | none =>
        right
        refine ⟨by rw [e1, hs]; rfl, ?_⟩
        cases hs2 : sc (xs.drop (j + 1) ++ ys) with
        | none => left; rw [e2, hs2]; rfl
        | some e =>
          right
          have := a2 hs e hs2
          rw [List.length_drop] at this
          rw [e2, hs2]
          simp only [tell]
          omega
    · right
      refine ⟨by unfold strEnd; rw [if_neg (fun h => hq h.1)], Or.inl ?_⟩
      unfold strEnd
      rw [if_neg (fun h => hq (by rw [← hg]; exact h.1))]
  · right
    have hje : j = xs.length := by omega
    refine ⟨by unfold strEnd; rw [if_neg (fun h => hlt h.2)], ?_⟩
    unfold strEnd
    by_cases hc : (xs ++ ys).getD j 0 = 34 ∧ j < (xs ++ ys).length
    · rw [if_pos hc]
      cases hs : sc ((xs ++ ys).drop (j + 1)) with
      | none => left; rfl
      | some e => right; simp only [tell]; omega
    · rw [if_neg hc]; exact Or.inl rfl

set_option maxHeartbeats 2000000 in
theorem law5_any (o p : Option Addr) (c d : Nat) (xs ys : List Int) (i : Int) (w : World) (h : BytesAt w o xs) (h' : BytesAt w p ys) (hm : xs.length ≤ 9223372036854775807) (hm' : ys.length ≤ 9223372036854775807) :
    Calls Try.prog 5 #[.slice o xs.length c, .slice p ys.length d, .int .i64 i] w (TrueBelow w) := by
  have hq := neqnil22
  by_cases g1 : xs.length ≤ 524288 ∧ ys.length ≤ 524288 ∧ 0 ≤ i ∧ i ≤ (xs.length : Int)
  · obtain ⟨g1, g2, g3, g4⟩ := g1
    obtain ⟨j, rfl⟩ : ∃ j : Nat, i = j := ⟨i.toNat, by omega⟩
    have hj : j ≤ xs.length := by omega
    cases o with
    | none =>
      have hB1 := h
      have hb1 := Below.refl w.heap.size w
      go_enter Try.func5, Try.ntmps5
      go_wp2_with fail
      go_at_call 14
      refine (zz14_any none p xs.length c ys.length d (.int .i64 j) w hm hm').mono ?_
      rintro e w' ⟨bb, rfl, hw, _⟩
      have hw' := hw.symm; subst hw'; clear hw
      cases bb with
      | false =>
        go_wp2
        go_ret
        exact ⟨rfl, Below.refl _ _⟩
      | true =>
        go_wp2_with fail
        clear hq
        go_at_call 8
        refine (join_any none p c d xs ys w hB1 (h'.below hb1) (by omega) (by omega)).mono ?_
        rintro e w2 ⟨oj, cj, rfl, hb2, hBj⟩
        have hb12 : Below w.heap.size w w2 := hb1.trans (hb2.mono hb1.size)
        have hB2 := hB1.below hb2
        have h2w := strEnd_two xs ys j hj
        have hjl : j ≤ (xs ++ ys).length := by rw [List.length_append]; omega
        have hjm : (xs ++ ys).length ≤ 1048576000 := by rw [List.length_append]; omega
        go_wp2_with fail
        go_at_call 12
        refine (zzStringEnd_any none c xs j w2 hB2 (by omega) hj).mono ?_
        rintro e w' ⟨rfl, hw⟩
        have hw' := hw.symm; subst hw'; clear hw
        go_wp2_with fail
        go_at_call 12
        have hz := zzStringEnd_any oj cj (xs ++ ys) j w2 hBj hjm hjl
        rw [List.length_append] at hz
        refine hz.mono ?_
        clear hz
        rintro e w' ⟨rfl, hw⟩
        have hw' := hw.symm; subst hw'; clear hw
        rcases h2w with ⟨en, e1, e2, e3, e4, e5⟩ | ⟨e1, e2⟩
        · obtain ⟨f, rfl⟩ : ∃ f, en = f + 1 := ⟨en - 1, by omega⟩
          have := hB1.nil
          simp [this] at e4
        · rw [e1]
          clear hB1 hB2 hBj h h'
          rcases e2 with e2 | e2
          · rw [e2]
            clear e1 e2
            go_wp2
            go_ret
            exact ⟨rfl, hb12⟩
          · obtain ⟨v, hv⟩ : ∃ v, v = strEnd (xs ++ ys) j := ⟨_, rfl⟩
            rw [← hv] at e2
            rw [← hv]
            have e6 : (v == -1) = false := by simp; omega
            clear e1 hv
            go_wp2
            go_ret
            exact ⟨rfl, hb12⟩
    | some a =>
      have hmk := run_make_row' (P := Try.prog) 22 5 (.int .u8 0) 1 Try.underlying22 Try.info5 rfl .i64 .i64 xs.length (by omega) (by omega)
      obtain ⟨w1, hcp, hb1, hB1⟩ := run_copyAll w (some a) c xs h
      go_enter Try.func5, Try.ntmps5
      go_wp2_with fail
      go_at_call 14
      refine (zz14_any (some a) p xs.length c ys.length d (.int .i64 j) w hm hm').mono ?_
      rintro e w' ⟨bb, rfl, hw, _⟩
      have hw' := hw.symm; subst hw'; clear hw
      cases bb with
      | false =>
        go_wp2
        go_ret
        exact ⟨rfl, Below.refl _ _⟩
      | true =>
        go_wp2_with fail
        clear hcp hmk hq
        go_at_call 8
        refine (join_any (some ⟨w.heap.size, 0, none⟩) p xs.length d xs ys w1 hB1 (h'.below hb1) (by omega) (by omega)).mono ?_
        rintro e w2 ⟨oj, cj, rfl, hb2, hBj⟩
        have hb12 : Below w.heap.size w w2 := hb1.trans (hb2.mono hb1.size)
        have hB2 := hB1.below hb2
        have h2w := strEnd_two xs ys j hj
        have hjl : j ≤ (xs ++ ys).length := by rw [List.length_append]; omega
        have hjm : (xs ++ ys).length ≤ 1048576000 := by rw [List.length_append]; omega
        go_wp2_with fail
        go_at_call 12
        refine (zzStringEnd_any (some ⟨w.heap.size, 0, none⟩) xs.length xs j w2 hB2 (by omega) hj).mono ?_
        rintro e w' ⟨rfl, hw⟩
        have hw' := hw.symm; subst hw'; clear hw
        go_wp2_with fail
        go_at_call 12
        have hz := zzStringEnd_any oj cj (xs ++ ys) j w2 hBj hjm hjl
        rw [List.length_append] at hz
        refine hz.mono ?_
        clear hz
        rintro e w' ⟨rfl, hw⟩
        have hw' := hw.symm; subst hw'; clear hw
        rcases h2w with ⟨en, e1, e2, e3, e4, e5⟩ | ⟨e1, e2⟩
        · obtain ⟨f, rfl⟩ : ∃ f, en = f + 1 := ⟨en - 1, by omega⟩
          rcases hB2 with h0 | ⟨b, off, ho, hc⟩
          · simp [h0] at e4
          have hcell : w2.cell? ⟨b, off + f, none⟩ = some (.int .u8 34) := by rw [hc f (by omega)]; rw [← e5]; rfl
          cases ho
          rw [Nat.zero_add] at hcell
          rw [e1, e2]
          have q1 : (j : Int) + 2 ≤ (f : Int) + 1 := by omega
          have q2 : (f : Int) + 1 ≤ (xs.length : Int) := by omega
          have q3 : (0 : Int) ≤ (f : Int) + 1 := by omega
          clear hc e1 e2 hB1 hBj h h' e5
          go_wp2
          go_ret
          exact ⟨rfl, hb12⟩
        · rw [e1]
          clear hB1 hB2 hBj h h'
          rcases e2 with e2 | e2
          · rw [e2]
            clear e1 e2
            go_wp2
            go_ret
            exact ⟨rfl, hb12⟩
          · obtain ⟨v, hv⟩ : ∃ v, v = strEnd (xs ++ ys) j := ⟨_, rfl⟩
            rw [← hv] at e2
            rw [← hv]
            have e6 : (v == -1) = false := by simp; omega
            clear e1 hv
            go_wp2
            go_ret
            exact ⟨rfl, hb12⟩
  · go_enter Try.func5, Try.ntmps5
    go_wp2_with fail
    go_at_call 14
    refine (zz14_any o p xs.length c ys.length d (.int .i64 i) w hm hm').mono ?_
    rintro e w' ⟨bb, rfl, hw, _⟩
    have hw' := hw.symm; subst hw'; clear hw
    cases bb with
    | false =>
      go_wp2
      go_ret
      exact ⟨rfl, Below.refl _ _⟩
    | true =>
      by_cases k1 : xs.length ≤ 524288
      · by_cases k2 : ys.length ≤ 524288
        · by_cases k3 : i < 0
          · clear g1
            go_wp2
            go_ret
            exact ⟨rfl, Below.refl _ _⟩
          · have k4 : (xs.length : Int) < i := by
              by_cases hh : (xs.length : Int) < i
              · exact hh
              · exact absurd ⟨k1, k2, by omega, by omega⟩ g1
            clear g1
            go_wp2
            go_ret
            exact ⟨rfl, Below.refl _ _⟩
        · clear g1
          go_wp2
          go_ret
          exact ⟨rfl, Below.refl _ _⟩
      · clear g1
        go_wp2
        go_ret
        exact ⟨rfl, Below.refl _ _⟩
end Go.Proofs.Qxb6617257a
