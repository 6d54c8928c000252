/-
  SEAT b6617257a: FnValueEndCutExtendShift (6).
-/
import Derived.Test.Qxb6617257aZz
import Derived.Test.Qxb6617257aJoin
import Derived.Test.Qxb6617257aVal
namespace Go.Proofs.Qxb6617257a
open Go.RowKit Go.Deep

theorem val_shift (xs ys : List Int) (j : Nat) (hj : j = xs.length) :
    (valEnd ys 0 = -1 ∧ valEnd (xs ++ ys) j = -1) ∨ ∃ n : Nat, valEnd ys 0 = n ∧ valEnd (xs ++ ys) j = (xs.length : Int) + (n : Int) := by
  have e : (xs ++ ys).drop j = ys := by rw [hj]; simp
  unfold valEnd
  rw [e, List.drop_zero]
  cases vr ys with
  | none => exact Or.inl ⟨rfl, rfl⟩
  | some n => right; exact ⟨n, by simp [tell], by simp [tell, hj]⟩

theorem val_le (ys : List Int) (j n : Nat) (h : valEnd ys j = (n : Int)) : n ≤ j + ys.length := by
  unfold valEnd at h
  cases hv : vr (ys.drop j) with
  | none => rw [hv] at h; simp [tell] at h
  | some e =>
    rw [hv] at h
    simp only [tell] at h
    have := (vr_pos hv).2
    rw [List.length_drop] at this
    omega

theorem val_two (xs ys : List Int) (j : Nat) (hj : j < xs.length) (x : Int) (hx : x = xs.getD j 0) :
    (valEnd xs j = -1 ∧ (opens x = true → valEnd (xs ++ ys) j = -1 ∨ (xs.length : Int) < valEnd (xs ++ ys) j) ∧ (opens x = false → valEnd (xs ++ ys) j = -1)) ∨
    ∃ n : Nat, valEnd xs j = n ∧ j < n ∧ n ≤ xs.length ∧ valEnd (xs.take n) j = n ∧ (opens x = true ∨ n < xs.length → valEnd (xs ++ ys) j = n) ∧ (n : Int) ≤ valEnd (xs ++ ys) j := by
  have hd : (xs ++ ys).drop j = xs.drop j ++ ys := List.drop_append_of_le_length (by omega)
  have hc : xs.drop j = x :: xs.drop (j + 1) := by rw [hx]; exact drop_cons xs j hj
  have hl : (xs.drop j).length = xs.length - j := List.length_drop
  cases hv : vr (xs.drop j) with
  | none =>
    left
    refine ⟨by unfold valEnd; rw [hv]; rfl, fun ho => ?_, fun ho => ?_⟩
    · have h1 := (opens_iff x).1 ho
      have := (vr_append_open (r := xs.drop (j + 1)) ys h1).2 (by rw [← hc]; exact hv)
      rw [← hc] at this
      unfold valEnd
      rw [hd]
      cases hv2 : vr (xs.drop j ++ ys) with
      | none => exact Or.inl rfl
      | some e =>
        right
        have := this e hv2
        simp only [tell]
        omega
    · have h1 : ¬ (x = 34 ∨ x = 123 ∨ x = 91) := fun h => by rw [(opens_iff x).2 h] at ho; cases ho
      have := vr_none_bare (r := xs.drop (j + 1)) ys h1 (by rw [← hc]; exact hv)
      rw [← hc] at this
      unfold valEnd
      rw [hd, this]
      rfl
  | some e =>
    right
    obtain ⟨b1, b2⟩ := vr_pos hv
    have ht : (xs.take (j + e)).drop j = (xs.drop j).take e := by rw [List.drop_take]; congr 1; omega
    refine ⟨j + e, by unfold valEnd; rw [hv]; simp [tell], by omega, by omega, ?_, ?_, ?_⟩
    · unfold valEnd
      rw [ht, vr_cut hv]
      simp [tell]
    · intro h
      unfold valEnd
      rw [hd]
      rcases h with h | h
      · have h1 := (opens_iff x).1 h
        have := (vr_append_open (r := xs.drop (j + 1)) ys h1).1 e (by rw [← hc]; exact hv)
        rw [← hc] at this
        rw [this]
        simp [tell]
      · rw [vr_append_lt ys hv (by omega)]
        simp [tell]
    · unfold valEnd
      rw [hd]
      obtain ⟨e', h1, h2⟩ := vr_append_ge ys hv
      rw [h1]
      simp only [tell]
      omega

set_option maxRecDepth 20000 in
set_option maxHeartbeats 4000000 in
theorem law6_nn (c d : Nat) (xs ys : List Int) (j : Nat) (w : World) (h : BytesAt w none xs) (h' : BytesAt w none ys) (hm : xs.length ≤ 9223372036854775807) (hm' : ys.length ≤ 9223372036854775807) (g1 : xs.length ≤ 524288) (g2 : ys.length ≤ 524288) (hj : j ≤ xs.length) :
    Calls Try.prog 6 #[.slice none xs.length c, .slice none ys.length d, .int .i64 j] w (TrueBelow w) := by
  have hq := neqnil22
  have g3 : (0 : Int) ≤ (j : Int) := by omega
  have g4 : (j : Int) ≤ (xs.length : Int) := by omega
  have hb1 : Below w.heap.size w w := (Below.refl w.heap.size w)
  have hb2 : Below w.heap.size w w := hb1
  have hX : BytesAt w none xs := h.below hb2
  have hY : BytesAt w none ys := h'.below hb2
  go_enter Try.func6, Try.ntmps6
  go_wp2_with fail
  go_at_call 15
  refine (zz15_any none none xs.length c ys.length d (.int .i64 j) w hm hm').mono ?_
  rintro e w' ⟨bb, rfl, hw, _⟩
  have hw' := hw.symm; subst hw'; clear hw
  cases bb with
  | false =>
    go_wp2
    go_ret
    exact ⟨rfl, Below.refl _ _⟩
  | true =>
    go_wp2_with fail
    clear hq 
    clear hb1
    go_at_call 8
    refine (join_any none none c d xs ys w hX hY (by omega) (by omega)).mono ?_
    rintro e w3 ⟨oj, cj, rfl, hb3, hBj⟩
    have hb13 : Below w.heap.size w w3 := hb2.trans (hb3.mono hb2.size)
    have hX3 := hX.below hb3
    have hY3 := hY.below hb3
    have HH := hid hb13
    clear hb2 hb3 hb13 hX hY h h'
    have z1 := zzValueEnd_any oj cj (xs ++ ys) j w3 hBj (by rw [List.length_append]; omega) (by rw [List.length_append]; omega)
    rw [List.length_append] at z1
    have z2 := zzValueEnd_any none c xs j w3 hX3 (by omega) hj
    have z3 := zzValueEnd_any none d ys 0 w3 hY3 (by omega) (by omega)
    have Z1 := hid z1
    have Z2 := hid z2
    have Z3 := hid z3
    have HX := hid hX3
    clear z1 z2 z3 hX3 hY3 hBj
    go_wp2_with fail
    go_at_call 16
    refine Z2.out.mono ?_
    clear Z2
    rintro e w' ⟨rfl, hw⟩
    have hw' := hw.symm; subst hw'; clear hw
    go_wp2_with fail
    go_at_call 16
    refine Z1.out.mono ?_
    clear Z1
    rintro e w' ⟨rfl, hw⟩
    have hw' := hw.symm; subst hw'; clear hw
    by_cases hje : j = xs.length
    · have e1 : ((j : Int) == (xs.length : Int)) = true := beq_iff_eq.2 (by omega)
      rw [valEnd_end xs j (by omega)]
      have hcase := val_shift xs ys j hje
      clear hje
      rcases hcase with ⟨v1, v2⟩ | ⟨n, v1, v2⟩
      · rw [v2]
        go_wp2_with fail
        go_at_call 16
        refine Z3.out.mono ?_
        clear Z3
        rintro e w' ⟨rfl, hw⟩
        have hw' := hw.symm; subst hw'; clear hw
        rw [v1]
        clear v1 v2
        go_wp2
        go_ret
        exact ⟨rfl, HH.out⟩
      · rw [v2]
        go_wp2_with fail
        go_at_call 16
        refine Z3.out.mono ?_
        clear Z3
        rintro e w' ⟨rfl, hw⟩
        have hw' := hw.symm; subst hw'; clear hw
        have hn : n ≤ ys.length := by have := val_le ys 0 n v1; omega
        rw [v1]
        have n0 : (0 : Int) ≤ (n : Int) := by omega
        clear v1 v2
        go_wp2
        go_ret
        exact ⟨by simp, HH.out⟩
    · exfalso
      have := HX.out.nil
      rw [this] at hj hje
      simp at hj hje
      omega

set_option maxRecDepth 20000 in
set_option maxHeartbeats 4000000 in
theorem law6_ns (a' : Addr) (c d : Nat) (xs ys : List Int) (j : Nat) (w : World) (h : BytesAt w none xs) (h' : BytesAt w (some a') ys) (hm : xs.length ≤ 9223372036854775807) (hm' : ys.length ≤ 9223372036854775807) (g1 : xs.length ≤ 524288) (g2 : ys.length ≤ 524288) (hj : j ≤ xs.length) :
    Calls Try.prog 6 #[.slice none xs.length c, .slice (some a') ys.length d, .int .i64 j] w (TrueBelow w) := by
  have hq := neqnil22
  have g3 : (0 : Int) ≤ (j : Int) := by omega
  have g4 : (j : Int) ≤ (xs.length : Int) := by omega
  have hb1 : Below w.heap.size w w := (Below.refl w.heap.size w)
  have hmk2 := run_make_row' (P := Try.prog) 22 5 (.int .u8 0) 1 Try.underlying22 Try.info5 rfl .i64 .i64 ys.length (by omega) (by omega)
  obtain ⟨w2, hcp2, hbb2, hBB2⟩ := run_copyAll w (some a') d ys (h'.below hb1)
  have hb2 : Below w.heap.size w w2 := hb1.trans (hbb2.mono hb1.size)
  have hX : BytesAt w2 none xs := h.below hb2
  have hY : BytesAt w2 (some ⟨w.heap.size, 0, none⟩) ys := hBB2
  go_enter Try.func6, Try.ntmps6
  go_wp2_with fail
  go_at_call 15
  refine (zz15_any none (some a') xs.length c ys.length d (.int .i64 j) w hm hm').mono ?_
  rintro e w' ⟨bb, rfl, hw, _⟩
  have hw' := hw.symm; subst hw'; clear hw
  cases bb with
  | false =>
    go_wp2
    go_ret
    exact ⟨rfl, Below.refl _ _⟩
  | true =>
    go_wp2_with fail
    clear hq hcp2 hmk2 hBB2 hbb2
    clear hb1
    go_at_call 8
    refine (join_any none (some ⟨w.heap.size, 0, none⟩) c ys.length xs ys w2 hX hY (by omega) (by omega)).mono ?_
    rintro e w3 ⟨oj, cj, rfl, hb3, hBj⟩
    have hb13 : Below w.heap.size w w3 := hb2.trans (hb3.mono hb2.size)
    have hX3 := hX.below hb3
    have hY3 := hY.below hb3
    have HH := hid hb13
    clear hb2 hb3 hb13 hX hY h h'
    have z1 := zzValueEnd_any oj cj (xs ++ ys) j w3 hBj (by rw [List.length_append]; omega) (by rw [List.length_append]; omega)
    rw [List.length_append] at z1
    have z2 := zzValueEnd_any none c xs j w3 hX3 (by omega) hj
    have z3 := zzValueEnd_any (some ⟨w.heap.size, 0, none⟩) ys.length ys 0 w3 hY3 (by omega) (by omega)
    have Z1 := hid z1
    have Z2 := hid z2
    have Z3 := hid z3
    have HX := hid hX3
    clear z1 z2 z3 hX3 hY3 hBj
    go_wp2_with fail
    go_at_call 16
    refine Z2.out.mono ?_
    clear Z2
    rintro e w' ⟨rfl, hw⟩
    have hw' := hw.symm; subst hw'; clear hw
    go_wp2_with fail
    go_at_call 16
    refine Z1.out.mono ?_
    clear Z1
    rintro e w' ⟨rfl, hw⟩
    have hw' := hw.symm; subst hw'; clear hw
    by_cases hje : j = xs.length
    · have e1 : ((j : Int) == (xs.length : Int)) = true := beq_iff_eq.2 (by omega)
      rw [valEnd_end xs j (by omega)]
      have hcase := val_shift xs ys j hje
      clear hje
      rcases hcase with ⟨v1, v2⟩ | ⟨n, v1, v2⟩
      · rw [v2]
        go_wp2_with fail
        go_at_call 16
        refine Z3.out.mono ?_
        clear Z3
        rintro e w' ⟨rfl, hw⟩
        have hw' := hw.symm; subst hw'; clear hw
        rw [v1]
        clear v1 v2
        go_wp2
        go_ret
        exact ⟨rfl, HH.out⟩
      · rw [v2]
        go_wp2_with fail
        go_at_call 16
        refine Z3.out.mono ?_
        clear Z3
        rintro e w' ⟨rfl, hw⟩
        have hw' := hw.symm; subst hw'; clear hw
        have hn : n ≤ ys.length := by have := val_le ys 0 n v1; omega
        rw [v1]
        have n0 : (0 : Int) ≤ (n : Int) := by omega
        clear v1 v2
        go_wp2
        go_ret
        exact ⟨by simp, HH.out⟩
    · exfalso
      have := HX.out.nil
      rw [this] at hj hje
      simp at hj hje
      omega

set_option maxRecDepth 20000 in
set_option maxHeartbeats 4000000 in
theorem law6_sn (a : Addr) (c d : Nat) (xs ys : List Int) (j : Nat) (w : World) (h : BytesAt w (some a) xs) (h' : BytesAt w none ys) (hm : xs.length ≤ 9223372036854775807) (hm' : ys.length ≤ 9223372036854775807) (g1 : xs.length ≤ 524288) (g2 : ys.length ≤ 524288) (hj : j ≤ xs.length) :
    Calls Try.prog 6 #[.slice (some a) xs.length c, .slice none ys.length d, .int .i64 j] w (TrueBelow w) := by
  have hq := neqnil22
  have g3 : (0 : Int) ≤ (j : Int) := by omega
  have g4 : (j : Int) ≤ (xs.length : Int) := by omega
  have hmk1 := run_make_row' (P := Try.prog) 22 5 (.int .u8 0) 1 Try.underlying22 Try.info5 rfl .i64 .i64 xs.length (by omega) (by omega)
  obtain ⟨w1, hcp1, hbb1, hBB1⟩ := run_copyAll w (some a) c xs h
  have hb1 : Below w.heap.size w w1 := hbb1
  have hb2 : Below w.heap.size w w1 := hb1
  have hX : BytesAt w1 (some ⟨w.heap.size, 0, none⟩) xs := hBB1
  have hY : BytesAt w1 none ys := h'.below hb2
  go_enter Try.func6, Try.ntmps6
  go_wp2_with fail
  go_at_call 15
  refine (zz15_any (some a) none xs.length c ys.length d (.int .i64 j) w hm hm').mono ?_
  rintro e w' ⟨bb, rfl, hw, _⟩
  have hw' := hw.symm; subst hw'; clear hw
  cases bb with
  | false =>
    go_wp2
    go_ret
    exact ⟨rfl, Below.refl _ _⟩
  | true =>
    go_wp2_with fail
    clear hq hcp1 hmk1 hBB1 hbb1
    clear hb1
    go_at_call 8
    refine (join_any (some ⟨w.heap.size, 0, none⟩) none xs.length d xs ys w1 hX hY (by omega) (by omega)).mono ?_
    rintro e w3 ⟨oj, cj, rfl, hb3, hBj⟩
    have hb13 : Below w.heap.size w w3 := hb2.trans (hb3.mono hb2.size)
    have hX3 := hX.below hb3
    have hY3 := hY.below hb3
    have HH := hid hb13
    clear hb2 hb3 hb13 hX hY h h'
    have z1 := zzValueEnd_any oj cj (xs ++ ys) j w3 hBj (by rw [List.length_append]; omega) (by rw [List.length_append]; omega)
    rw [List.length_append] at z1
    have z2 := zzValueEnd_any (some ⟨w.heap.size, 0, none⟩) xs.length xs j w3 hX3 (by omega) hj
    have z3 := zzValueEnd_any none d ys 0 w3 hY3 (by omega) (by omega)
    have Z1 := hid z1
    have Z2 := hid z2
    have Z3 := hid z3
    have HX := hid hX3
    clear z1 z2 z3 hX3 hY3 hBj
    go_wp2_with fail
    go_at_call 16
    refine Z2.out.mono ?_
    clear Z2
    rintro e w' ⟨rfl, hw⟩
    have hw' := hw.symm; subst hw'; clear hw
    go_wp2_with fail
    go_at_call 16
    refine Z1.out.mono ?_
    clear Z1
    rintro e w' ⟨rfl, hw⟩
    have hw' := hw.symm; subst hw'; clear hw
    by_cases hje : j = xs.length
    · have e1 : ((j : Int) == (xs.length : Int)) = true := beq_iff_eq.2 (by omega)
      rw [valEnd_end xs j (by omega)]
      have hcase := val_shift xs ys j hje
      clear hje
      rcases hcase with ⟨v1, v2⟩ | ⟨n, v1, v2⟩
      · rw [v2]
        go_wp2_with fail
        go_at_call 16
        refine Z3.out.mono ?_
        clear Z3
        rintro e w' ⟨rfl, hw⟩
        have hw' := hw.symm; subst hw'; clear hw
        rw [v1]
        clear v1 v2
        go_wp2
        go_ret
        exact ⟨rfl, HH.out⟩
      · rw [v2]
        go_wp2_with fail
        go_at_call 16
        refine Z3.out.mono ?_
        clear Z3
        rintro e w' ⟨rfl, hw⟩
        have hw' := hw.symm; subst hw'; clear hw
        have hn : n ≤ ys.length := by have := val_le ys 0 n v1; omega
        rw [v1]
        have n0 : (0 : Int) ≤ (n : Int) := by omega
        clear v1 v2
        go_wp2
        go_ret
        exact ⟨by simp, HH.out⟩
    · have hjl : j < xs.length := by omega
      have e1 : ((j : Int) == (xs.length : Int)) = false := by simp; omega
      have e2 : (0 : Int) ≤ (j : Int) ∧ (j : Int) < (xs.length : Int) := by omega
      clear hje Z3
      obtain ⟨x, hx⟩ : ∃ x, x = xs.getD j 0 := ⟨_, rfl⟩
      have hcell : w3.cell? ⟨w.heap.size, j, none⟩ = some (.int .u8 x) := by
        rcases HX.out with h0 | ⟨b, off, ho, hc⟩
        · simp [h0] at hjl
        · cases ho
          have := hc j hjl
          rw [Nat.zero_add] at this
          rw [this, hx]
      have h2w := val_two xs ys j hjl x hx
      clear hx
      obtain ⟨v, hv⟩ : ∃ v, v = valEnd (xs ++ ys) j := ⟨_, rfl⟩
      rw [← hv] at h2w
      rw [← hv]
      clear hv
      have OP := opens_any x w3
      cases hop : opens x with
      | false =>
        rw [hop] at OP h2w
        have OP' := hid OP
        clear OP hop
        rcases h2w with ⟨v1, v2, v3⟩ | ⟨n, v1, v2, v3, v4, v5, v6⟩
        · have v7 := v3 rfl
          subst v7
          rw [v1]
          clear v1 v2 v3
          go_wp2_with fail
          go_at_call 17
          refine OP'.out.mono ?_
          rintro e w' ⟨rfl, hw⟩
          have hw' := hw.symm; subst hw'; clear hw
          go_wp2
          go_ret
          exact ⟨rfl, HH.out⟩
        · rw [v1]
          have z4 := zzValueEnd_any (some ⟨w.heap.size, 0, none⟩) xs.length (xs.take n) j w3 (HX.out.take n) (by rw [List.length_take]; omega) (by rw [List.length_take]; omega)
          rw [List.length_take, Nat.min_eq_left v3, v4] at z4
          have Z4 := hid z4
          clear z4 v1 v4
          have n1 : (j : Int) < (n : Int) := by omega
          have n2 : (n : Int) ≤ (xs.length : Int) := by omega
          have n3 : (0 : Int) ≤ (n : Int) := by omega
          by_cases hnl : n < xs.length
          · have v7 := v5 (Or.inr hnl)
            subst v7
            have n4 : (n : Int) < (xs.length : Int) := by omega
            clear v5 v6
            go_wp2_with fail
            go_at_call 17
            refine OP'.out.mono ?_
            rintro e w' ⟨rfl, hw⟩
            have hw' := hw.symm; subst hw'; clear hw
            go_wp2_with fail
            go_at_call 16
            refine Z4.out.mono ?_
            clear Z4
            rintro e w' ⟨rfl, hw⟩
            have hw' := hw.symm; subst hw'; clear hw
            go_wp2
            go_ret
            exact ⟨by simp, HH.out⟩
          · have n4 : ¬ (n : Int) < (xs.length : Int) := by omega
            clear v5
            go_wp2_with fail
            go_at_call 17
            refine OP'.out.mono ?_
            rintro e w' ⟨rfl, hw⟩
            have hw' := hw.symm; subst hw'; clear hw
            go_wp2_with fail
            go_at_call 16
            refine Z4.out.mono ?_
            clear Z4
            rintro e w' ⟨rfl, hw⟩
            have hw' := hw.symm; subst hw'; clear hw
            have V6 := hid v6
            clear v6
            go_wp2
            go_ret
            exact ⟨by simpa using V6.out, HH.out⟩
      | true =>
        rw [hop] at OP h2w
        have OP' := hid OP
        clear OP hop
        rcases h2w with ⟨v1, v2, v3⟩ | ⟨n, v1, v2, v3, v4, v5, v6⟩
        · have v7 := v2 rfl
          rw [v1]
          clear v1 v2 v3
          rcases v7 with v7 | v7
          · subst v7
            go_wp2_with fail
            go_at_call 17
            refine OP'.out.mono ?_
            rintro e w' ⟨rfl, hw⟩
            have hw' := hw.symm; subst hw'; clear hw
            go_wp2
            go_ret
            exact ⟨rfl, HH.out⟩
          · have v8 : (v == -1) = false := by simp; omega
            go_wp2_with fail
            go_at_call 17
            refine OP'.out.mono ?_
            rintro e w' ⟨rfl, hw⟩
            have hw' := hw.symm; subst hw'; clear hw
            go_wp2
            go_ret
            exact ⟨rfl, HH.out⟩
        · rw [v1]
          have z4 := zzValueEnd_any (some ⟨w.heap.size, 0, none⟩) xs.length (xs.take n) j w3 (HX.out.take n) (by rw [List.length_take]; omega) (by rw [List.length_take]; omega)
          rw [List.length_take, Nat.min_eq_left v3, v4] at z4
          have Z4 := hid z4
          clear z4 v1 v4
          have n1 : (j : Int) < (n : Int) := by omega
          have n2 : (n : Int) ≤ (xs.length : Int) := by omega
          have n3 : (0 : Int) ≤ (n : Int) := by omega
          have v7 := v5 (Or.inl rfl)
          subst v7
          clear v5 v6
          go_wp2_with fail
          go_at_call 17
          refine OP'.out.mono ?_
          rintro e w' ⟨rfl, hw⟩
          have hw' := hw.symm; subst hw'; clear hw
          go_wp2_with fail
          go_at_call 16
          refine Z4.out.mono ?_
          clear Z4
          rintro e w' ⟨rfl, hw⟩
          have hw' := hw.symm; subst hw'; clear hw
          go_wp2
          go_ret
          exact ⟨by simp, HH.out⟩

set_option maxRecDepth 20000 in
set_option maxHeartbeats 4000000 in
theorem law6_ss (a : Addr) (a' : Addr) (c d : Nat) (xs ys : List Int) (j : Nat) (w : World) (h : BytesAt w (some a) xs) (h' : BytesAt w (some a') ys) (hm : xs.length ≤ 9223372036854775807) (hm' : ys.length ≤ 9223372036854775807) (g1 : xs.length ≤ 524288) (g2 : ys.length ≤ 524288) (hj : j ≤ xs.length) :
    Calls Try.prog 6 #[.slice (some a) xs.length c, .slice (some a') ys.length d, .int .i64 j] w (TrueBelow w) := by
  have hq := neqnil22
  have g3 : (0 : Int) ≤ (j : Int) := by omega
  have g4 : (j : Int) ≤ (xs.length : Int) := by omega
  have hmk1 := run_make_row' (P := Try.prog) 22 5 (.int .u8 0) 1 Try.underlying22 Try.info5 rfl .i64 .i64 xs.length (by omega) (by omega)
  obtain ⟨w1, hcp1, hbb1, hBB1⟩ := run_copyAll w (some a) c xs h
  have hb1 : Below w.heap.size w w1 := hbb1
  have hmk2 := run_make_row' (P := Try.prog) 22 5 (.int .u8 0) 1 Try.underlying22 Try.info5 rfl .i64 .i64 ys.length (by omega) (by omega)
  obtain ⟨w2, hcp2, hbb2, hBB2⟩ := run_copyAll w1 (some a') d ys (h'.below hb1)
  have hb2 : Below w.heap.size w w2 := hb1.trans (hbb2.mono hb1.size)
  have hX : BytesAt w2 (some ⟨w.heap.size, 0, none⟩) xs := hBB1.below hbb2
  have hY : BytesAt w2 (some ⟨w1.heap.size, 0, none⟩) ys := hBB2
  go_enter Try.func6, Try.ntmps6
  go_wp2_with fail
  go_at_call 15
  refine (zz15_any (some a) (some a') xs.length c ys.length d (.int .i64 j) w hm hm').mono ?_
  rintro e w' ⟨bb, rfl, hw, _⟩
  have hw' := hw.symm; subst hw'; clear hw
  cases bb with
  | false =>
    go_wp2
    go_ret
    exact ⟨rfl, Below.refl _ _⟩
  | true =>
    go_wp2_with fail
    clear hq hcp1 hmk1 hBB1 hbb1 hcp2 hmk2 hBB2 hbb2
    clear hb1
    go_at_call 8
    refine (join_any (some ⟨w.heap.size, 0, none⟩) (some ⟨w1.heap.size, 0, none⟩) xs.length ys.length xs ys w2 hX hY (by omega) (by omega)).mono ?_
    rintro e w3 ⟨oj, cj, rfl, hb3, hBj⟩
    have hb13 : Below w.heap.size w w3 := hb2.trans (hb3.mono hb2.size)
    have hX3 := hX.below hb3
    have hY3 := hY.below hb3
    have HH := hid hb13
    clear hb2 hb3 hb13 hX hY h h'
    have z1 := zzValueEnd_any oj cj (xs ++ ys) j w3 hBj (by rw [List.length_append]; omega) (by rw [List.length_append]; omega)
    rw [List.length_append] at z1
    have z2 := zzValueEnd_any (some ⟨w.heap.size, 0, none⟩) xs.length xs j w3 hX3 (by omega) hj
    have z3 := zzValueEnd_any (some ⟨w1.heap.size, 0, none⟩) ys.length ys 0 w3 hY3 (by omega) (by omega)
    have Z1 := hid z1
    have Z2 := hid z2
    have Z3 := hid z3
    have HX := hid hX3
    clear z1 z2 z3 hX3 hY3 hBj
    go_wp2_with fail
    go_at_call 16
    refine Z2.out.mono ?_
    clear Z2
    rintro e w' ⟨rfl, hw⟩
    have hw' := hw.symm; subst hw'; clear hw
    go_wp2_with fail
    go_at_call 16
    refine Z1.out.mono ?_
    clear Z1
    rintro e w' ⟨rfl, hw⟩
    have hw' := hw.symm; subst hw'; clear hw
    by_cases hje : j = xs.length
    · have e1 : ((j : Int) == (xs.length : Int)) = true := beq_iff_eq.2 (by omega)
      rw [valEnd_end xs j (by omega)]
      have hcase := val_shift xs ys j hje
      clear hje
      rcases hcase with ⟨v1, v2⟩ | ⟨n, v1, v2⟩
      · rw [v2]
        go_wp2_with fail
        go_at_call 16
        refine Z3.out.mono ?_
        clear Z3
        rintro e w' ⟨rfl, hw⟩
        have hw' := hw.symm; subst hw'; clear hw
        rw [v1]
        clear v1 v2
        go_wp2
        go_ret
        exact ⟨rfl, HH.out⟩
      · rw [v2]
        go_wp2_with fail
        go_at_call 16
        refine Z3.out.mono ?_
        clear Z3
        rintro e w' ⟨rfl, hw⟩
        have hw' := hw.symm; subst hw'; clear hw
        have hn : n ≤ ys.length := by have := val_le ys 0 n v1; omega
        rw [v1]
        have n0 : (0 : Int) ≤ (n : Int) := by omega
        clear v1 v2
        go_wp2
        go_ret
        exact ⟨by simp, HH.out⟩
    · have hjl : j < xs.length := by omega
      have e1 : ((j : Int) == (xs.length : Int)) = false := by simp; omega
      have e2 : (0 : Int) ≤ (j : Int) ∧ (j : Int) < (xs.length : Int) := by omega
      clear hje Z3
      obtain ⟨x, hx⟩ : ∃ x, x = xs.getD j 0 := ⟨_, rfl⟩
      have hcell : w3.cell? ⟨w.heap.size, j, none⟩ = some (.int .u8 x) := by
        rcases HX.out with h0 | ⟨b, off, ho, hc⟩
        · simp [h0] at hjl
        · cases ho
          have := hc j hjl
          rw [Nat.zero_add] at this
          rw [this, hx]
      have h2w := val_two xs ys j hjl x hx
      clear hx
      obtain ⟨v, hv⟩ : ∃ v, v = valEnd (xs ++ ys) j := ⟨_, rfl⟩
      rw [← hv] at h2w
      rw [← hv]
      clear hv
      have OP := opens_any x w3
      cases hop : opens x with
      | false =>
        rw [hop] at OP h2w
        have OP' := hid OP
        clear OP hop
        rcases h2w with ⟨v1, v2, v3⟩ | ⟨n, v1, v2, v3, v4, v5, v6⟩
        · have v7 := v3 rfl
          subst v7
          rw [v1]
          clear v1 v2 v3
          go_wp2_with fail
          go_at_call 17
          refine OP'.out.mono ?_
          rintro e w' ⟨rfl, hw⟩
          have hw' := hw.symm; subst hw'; clear hw
          go_wp2
          go_ret
          exact ⟨rfl, HH.out⟩
        · rw [v1]
          have z4 := zzValueEnd_any (some ⟨w.heap.size, 0, none⟩) xs.length (xs.take n) j w3 (HX.out.take n) (by rw [List.length_take]; omega) (by rw [List.length_take]; omega)
          rw [List.length_take, Nat.min_eq_left v3, v4] at z4
          have Z4 := hid z4
          clear z4 v1 v4
          have n1 : (j : Int) < (n : Int) := by omega
          have n2 : (n : Int) ≤ (xs.length : Int) := by omega
          have n3 : (0 : Int) ≤ (n : Int) := by omega
          by_cases hnl : n < xs.length
          · have v7 := v5 (Or.inr hnl)
            subst v7
            have n4 : (n : Int) < (xs.length : Int) := by omega
            clear v5 v6
            go_wp2_with fail
            go_at_call 17
            refine OP'.out.mono ?_
            rintro e w' ⟨rfl, hw⟩
            have hw' := hw.symm; subst hw'; clear hw
            go_wp2_with fail
            go_at_call 16
            refine Z4.out.mono ?_
            clear Z4
            rintro e w' ⟨rfl, hw⟩
            have hw' := hw.symm; subst hw'; clear hw
            go_wp2
            go_ret
            exact ⟨by simp, HH.out⟩
          · have n4 : ¬ (n : Int) < (xs.length : Int) := by omega
            clear v5
            go_wp2_with fail
            go_at_call 17
            refine OP'.out.mono ?_
            rintro e w' ⟨rfl, hw⟩
            have hw' := hw.symm; subst hw'; clear hw
            go_wp2_with fail
            go_at_call 16
            refine Z4.out.mono ?_
            clear Z4
            rintro e w' ⟨rfl, hw⟩
            have hw' := hw.symm; subst hw'; clear hw
            have V6 := hid v6
            clear v6
            go_wp2
            go_ret
            exact ⟨by simpa using V6.out, HH.out⟩
      | true =>
        rw [hop] at OP h2w
        have OP' := hid OP
        clear OP hop
        rcases h2w with ⟨v1, v2, v3⟩ | ⟨n, v1, v2, v3, v4, v5, v6⟩
        · have v7 := v2 rfl
          rw [v1]
          clear v1 v2 v3
          rcases v7 with v7 | v7
          · subst v7
            go_wp2_with fail
            go_at_call 17
            refine OP'.out.mono ?_
            rintro e w' ⟨rfl, hw⟩
            have hw' := hw.symm; subst hw'; clear hw
            go_wp2
            go_ret
            exact ⟨rfl, HH.out⟩
          · have v8 : (v == -1) = false := by simp; omega
            go_wp2_with fail
            go_at_call 17
            refine OP'.out.mono ?_
            rintro e w' ⟨rfl, hw⟩
            have hw' := hw.symm; subst hw'; clear hw
            go_wp2
            go_ret
            exact ⟨rfl, HH.out⟩
        · rw [v1]
          have z4 := zzValueEnd_any (some ⟨w.heap.size, 0, none⟩) xs.length (xs.take n) j w3 (HX.out.take n) (by rw [List.length_take]; omega) (by rw [List.length_take]; omega)
          rw [List.length_take, Nat.min_eq_left v3, v4] at z4
          have Z4 := hid z4
          clear z4 v1 v4
          have n1 : (j : Int) < (n : Int) := by omega
          have n2 : (n : Int) ≤ (xs.length : Int) := by omega
          have n3 : (0 : Int) ≤ (n : Int) := by omega
          have v7 := v5 (Or.inl rfl)
          subst v7
          clear v5 v6
          go_wp2_with fail
          go_at_call 17
          refine OP'.out.mono ?_
          rintro e w' ⟨rfl, hw⟩
          have hw' := hw.symm; subst hw'; clear hw
          go_wp2_with fail
          go_at_call 16
          refine Z4.out.mono ?_
          clear Z4
          rintro e w' ⟨rfl, hw⟩
          have hw' := hw.symm; subst hw'; clear hw
          go_wp2
          go_ret
          exact ⟨by simp, HH.out⟩

set_option maxHeartbeats 2000000 in
theorem law6_any (o p : Option Addr) (c d : Nat) (xs ys : List Int) (i : Int) (w : World) (h : BytesAt w o xs) (h' : BytesAt w p ys) (hm : xs.length ≤ 9223372036854775807) (hm' : ys.length ≤ 9223372036854775807) :
    Calls Try.prog 6 #[.slice o xs.length c, .slice p ys.length d, .int .i64 i] w (TrueBelow w) := by
  by_cases g1 : xs.length ≤ 524288 ∧ ys.length ≤ 524288 ∧ 0 ≤ i ∧ i ≤ (xs.length : Int)
  · obtain ⟨g1, g2, g3, g4⟩ := g1
    obtain ⟨j, rfl⟩ : ∃ j : Nat, i = j := ⟨i.toNat, by omega⟩
    have hj : j ≤ xs.length := by omega
    cases o with
    | none =>
      cases p with
      | none => exact law6_nn c d xs ys j w h h' hm hm' g1 g2 hj
      | some a' => exact law6_ns a' c d xs ys j w h h' hm hm' g1 g2 hj
    | some a =>
      cases p with
      | none => exact law6_sn a c d xs ys j w h h' hm hm' g1 g2 hj
      | some a' => exact law6_ss a a' c d xs ys j w h h' hm hm' g1 g2 hj
  · go_enter Try.func6, Try.ntmps6
    go_wp2_with fail
    go_at_call 15
    refine (zz15_any o p xs.length c ys.length d (.int .i64 i) w hm hm').mono ?_
    rintro e w' ⟨bb, rfl, hw, _⟩
    have hw' := hw.symm; subst hw'; clear hw
    cases bb with
    | false =>
      go_wp2
      go_ret
      exact ⟨rfl, Below.refl _ _⟩
    | true =>
      by_cases k1 : xs.length ≤ 524288
      · by_cases k2 : ys.length ≤ 524288
        · by_cases k3 : i < 0
          · clear g1
            go_wp2
            go_ret
            exact ⟨rfl, Below.refl _ _⟩
          · have k4 : (xs.length : Int) < i := by
              by_cases hh : (xs.length : Int) < i
              · exact hh
              · exact absurd ⟨k1, k2, by omega, by omega⟩ g1
            clear g1
            go_wp2
            go_ret
            exact ⟨rfl, Below.refl _ _⟩
        · clear g1
          go_wp2
          go_ret
          exact ⟨rfl, Below.refl _ _⟩
      · clear g1
        go_wp2
        go_ret
        exact ⟨rfl, Below.refl _ _⟩
end Go.Proofs.Qxb6617257a
