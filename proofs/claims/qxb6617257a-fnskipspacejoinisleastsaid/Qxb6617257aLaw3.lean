/-
  SEAT b6617257a: FnSkipSpaceJoinIsLeast (3).
-/
import Derived.Test.Qxb6617257aZz
import Derived.Test.Qxb6617257aJoin
import Derived.Test.Qxb6617257aSpace
namespace Go.Proofs.Qxb6617257a
open Go.RowKit Go.Deep

theorem skips_two {xs ys : List Int} {j r s q : Nat} (h : Skips (xs ++ ys) j r) (h1 : Skips xs j s) (h2 : Skips ys 0 q) :
    (s < xs.length → r = s) ∧ (¬ s < xs.length → s = xs.length ∧ r = xs.length + q) := by
  have hl : ∀ k, k < xs.length → (xs ++ ys).getD k 0 = xs.getD k 0 := fun k hk => by simp [List.getD, List.getElem?_append_left hk]
  have hr : ∀ k, (xs ++ ys).getD (xs.length + k) 0 = ys.getD k 0 := fun k => by simp [List.getD, List.getElem?_append_right]
  obtain ⟨a1, a2, a3, a4⟩ := h1
  obtain ⟨b1, b2, b3, b4⟩ := h2
  constructor
  · intro hs
    refine h.only ⟨a1, by rw [List.length_append]; omega, fun k h1 h2 => ?_, fun _ => ?_⟩
    · rw [hl k (by omega)]; exact a3 k h1 h2
    · rw [hl s hs]; exact a4 hs
  · intro hs
    have he : s = xs.length := by omega
    subst he
    refine ⟨rfl, h.only ⟨by omega, by rw [List.length_append]; omega, fun k h1 h2 => ?_, fun h => ?_⟩⟩
    · by_cases hk : k < xs.length
      · rw [hl k hk]; exact a3 k h1 hk
      · obtain ⟨t, rfl⟩ : ∃ t, k = xs.length + t := ⟨k - xs.length, by omega⟩
        rw [hr]
        exact b3 t (Nat.zero_le _) (by omega)
    · rw [hr]
      rw [List.length_append] at h
      exact b4 (by omega)

set_option maxRecDepth 20000 in
set_option maxHeartbeats 4000000 in
theorem law3_nn (c d : Nat) (xs ys : List Int) (j : Nat) (w : World) (h : BytesAt w none xs) (h' : BytesAt w none ys) (hm : xs.length ≤ 9223372036854775807) (hm' : ys.length ≤ 9223372036854775807) (g1 : xs.length ≤ 524288) (g2 : ys.length ≤ 524288) (hj : j ≤ xs.length) :
    Calls Try.prog 3 #[.slice none xs.length c, .slice none ys.length d, .int .i64 j] w (TrueBelow w) := by
  have hq := neqnil22
  have g3 : (0 : Int) ≤ (j : Int) := by omega
  have g4 : (j : Int) ≤ (xs.length : Int) := by omega
  have hb1 : Below w.heap.size w w := (Below.refl w.heap.size w)
  have hb2 : Below w.heap.size w w := hb1
  have hX : BytesAt w none xs := h.below hb2
  have hY : BytesAt w none ys := h'.below hb2
  go_enter Try.func3, Try.ntmps3
  go_wp2_with fail
  go_at_call 7
  refine (zz7_any none none xs.length c ys.length d (.int .i64 j) w hm hm').mono ?_
  rintro e w' ⟨bb, rfl, hw, _⟩
  have hw' := hw.symm; subst hw'; clear hw
  cases bb with
  | false =>
    go_wp2
    go_ret
    exact ⟨rfl, Below.refl _ _⟩
  | true =>
    go_wp2_with fail
    clear hq 
    clear hb1
    go_at_call 8
    refine (join_any none none c d xs ys w hX hY (by omega) (by omega)).mono ?_
    rintro e w3 ⟨oj, cj, rfl, hb3, hBj⟩
    have hb13 : Below w.heap.size w w3 := hb2.trans (hb3.mono hb2.size)
    have hX3 := hX.below hb3
    have hY3 := hY.below hb3
    have HH := hid (And.intro hb13 hBj)
    clear hb2 hb3 hb13 hX hY h h'
    have z1 := zzSkipSpace_any oj cj (xs ++ ys) j w3 hBj (by rw [List.length_append]; omega) (by rw [List.length_append]; omega)
    rw [List.length_append] at z1
    have z2 := zzSkipSpace_any none c xs j w3 hX3 (by omega) hj
    have z3 := zzSkipSpace_any none d ys 0 w3 hY3 (by omega) (by omega)
    have Z1 := hid z1
    have Z2 := hid z2
    have Z3 := hid z3
    clear z1 z2 z3 hX3 hY3 hBj
    go_wp2_with fail
    go_at_call 9
    refine Z1.out.mono ?_
    clear Z1
    rintro e w' ⟨r, rfl, hw, hr⟩
    have hw' := hw.symm; subst hw'; clear hw
    have R1 := hid hr
    clear hr
    go_wp2_with fail
    go_at_call 9
    refine Z2.out.mono ?_
    clear Z2
    rintro e w' ⟨s, rfl, hw, hr⟩
    have hw' := hw.symm; subst hw'; clear hw
    have R2 := hid hr
    clear hr
    go_wp2_with fail
    go_at_call 9
    refine Z3.out.mono ?_
    clear Z3
    rintro e w' ⟨q, rfl, hw, hr⟩
    have hw' := hw.symm; subst hw'; clear hw
    have R3 := hid hr
    clear hr
    have g5 : j ≤ r := R1.out.1
    have g6 : r ≤ xs.length + ys.length := by have := R1.out.2.1; rw [List.length_append] at this; exact this
    have g7 : (j : Int) ≤ (r : Int) := by omega
    have g8 : (r : Int) ≤ (xs.length : Int) + (ys.length : Int) := by omega
    go_wp2_with fail
    have G5 := hid g5
    clear g5 g7
    rename ¬ r < j ∧ _ => hbr
    clear hbr
    go_loopw [13] (fun i' wr => ∃ k : Nat, j ≤ k ∧ i' = .int .i64 k ∧ Hid (k ≤ r ∧ wr = w3)) (fun i' _ => r - (intOf i').toNat)
    case atStart => exact ⟨j, Nat.le_refl _, rfl, hid ⟨G5.out, rfl⟩⟩
    case round =>
      obtain ⟨k, hjk, rfl, HK⟩ := hrel
      have hk : k ≤ r := HK.out.1
      have hwr : wr = w3 := HK.out.2
      clear HK
      subst wr
      by_cases hlk : k < r
      · rcases HH.out.2 with h0 | ⟨b, off, ho, hc⟩
        · have := congrArg List.length h0
          rw [List.length_append, List.length_nil] at this
          omega
        subst ho
        obtain ⟨y, hy⟩ : ∃ y, y = (xs ++ ys).getD k 0 := ⟨_, rfl⟩
        have hcell : w3.cell? ⟨b, off + k, none⟩ = some (.int .u8 y) := by rw [hy]; exact hc k (by rw [List.length_append]; omega)
        have hsp : isSp y = true := by rw [hy]; exact R1.out.2.2.1 k hjk hlk
        have h3 : (k : Int) < (r : Int) := by omega
        have h4 : (0 : Int) ≤ (k : Int) ∧ (k : Int) < (xs.length : Int) + (ys.length : Int) := by omega
        clear hy hc
        go_wp2_with fail
        go_at_call 10
        refine (jsonSpace_any y w3).mono ?_
        rintro e w' ⟨rfl, hw⟩
        have hw' := hw.symm; subst hw'; clear hw
        rw [hsp]
        clear hsp
        go_wp2
        go_roundw
        case rel => exact ⟨k + 1, by omega, by go_num, hid ⟨by omega, trivial⟩⟩
        case measure => simp [intOf]; omega
      · have t2 := skips_two R1.out R2.out R3.out
        by_cases hrl : r < xs.length + ys.length
        · rcases HH.out.2 with h0 | ⟨b, off, ho, hc⟩
          · have := congrArg List.length h0
            rw [List.length_append, List.length_nil] at this
            omega
          subst ho
          obtain ⟨y, hy⟩ : ∃ y, y = (xs ++ ys).getD r 0 := ⟨_, rfl⟩
          have hcell : w3.cell? ⟨b, off + r, none⟩ = some (.int .u8 y) := by rw [hy]; exact hc r (by rw [List.length_append]; omega)
          have hsp : isSp y = false := by rw [hy]; exact R1.out.2.2.2 (by rw [List.length_append]; exact hrl)
          have h3 : (r : Int) < (xs.length : Int) + (ys.length : Int) := by omega
          clear hy hc
          by_cases hs : s < xs.length
          · have hrs := t2.1 hs
            clear t2
            subst hrs
            go_wp2_with fail
            go_at_call 10
            refine (jsonSpace_any y w3).mono ?_
            rintro e w' ⟨rfl, hw⟩
            have hw' := hw.symm; subst hw'; clear hw
            rw [hsp]
            clear hsp
            go_wp2
            go_ret
            exact ⟨rfl, HH.out.1⟩
          · obtain ⟨t3, t4⟩ := t2.2 hs
            subst t3
            subst t4
            clear t2
            go_wp2_with fail
            go_at_call 10
            refine (jsonSpace_any y w3).mono ?_
            rintro e w' ⟨rfl, hw⟩
            have hw' := hw.symm; subst hw'; clear hw
            rw [hsp]
            clear hsp
            go_wp2
            go_ret
            exact ⟨by simp, HH.out.1⟩
        · by_cases hs : s < xs.length
          · have hrs := t2.1 hs
            exfalso
            omega
          · obtain ⟨t3, t4⟩ := t2.2 hs
            subst t3
            subst t4
            clear t2
            go_wp2
            go_ret
            exact ⟨by simp, HH.out.1⟩

set_option maxRecDepth 20000 in
set_option maxHeartbeats 4000000 in
theorem law3_ns (a' : Addr) (c d : Nat) (xs ys : List Int) (j : Nat) (w : World) (h : BytesAt w none xs) (h' : BytesAt w (some a') ys) (hm : xs.length ≤ 9223372036854775807) (hm' : ys.length ≤ 9223372036854775807) (g1 : xs.length ≤ 524288) (g2 : ys.length ≤ 524288) (hj : j ≤ xs.length) :
    Calls Try.prog 3 #[.slice none xs.length c, .slice (some a') ys.length d, .int .i64 j] w (TrueBelow w) := by
  have hq := neqnil22
  have g3 : (0 : Int) ≤ (j : Int) := by omega
  have g4 : (j : Int) ≤ (xs.length : Int) := by omega
  have hb1 : Below w.heap.size w w := (Below.refl w.heap.size w)
  have hmk2 := run_make_row' (P := Try.prog) 22 5 (.int .u8 0) 1 Try.underlying22 Try.info5 rfl .i64 .i64 ys.length (by omega) (by omega)
  obtain ⟨w2, hcp2, hbb2, hBB2⟩ := run_copyAll w (some a') d ys (h'.below hb1)
  have hb2 : Below w.heap.size w w2 := hb1.trans (hbb2.mono hb1.size)
  have hX : BytesAt w2 none xs := h.below hb2
  have hY : BytesAt w2 (some ⟨w.heap.size, 0, none⟩) ys := hBB2
  go_enter Try.func3, Try.ntmps3
  go_wp2_with fail
  go_at_call 7
  refine (zz7_any none (some a') xs.length c ys.length d (.int .i64 j) w hm hm').mono ?_
  rintro e w' ⟨bb, rfl, hw, _⟩
  have hw' := hw.symm; subst hw'; clear hw
  cases bb with
  | false =>
    go_wp2
    go_ret
    exact ⟨rfl, Below.refl _ _⟩
  | true =>
    go_wp2_with fail
    clear hq hcp2 hmk2 hBB2 hbb2
    clear hb1
    go_at_call 8
    refine (join_any none (some ⟨w.heap.size, 0, none⟩) c ys.length xs ys w2 hX hY (by omega) (by omega)).mono ?_
    rintro e w3 ⟨oj, cj, rfl, hb3, hBj⟩
    have hb13 : Below w.heap.size w w3 := hb2.trans (hb3.mono hb2.size)
    have hX3 := hX.below hb3
    have hY3 := hY.below hb3
    have HH := hid (And.intro hb13 hBj)
    clear hb2 hb3 hb13 hX hY h h'
    have z1 := zzSkipSpace_any oj cj (xs ++ ys) j w3 hBj (by rw [List.length_append]; omega) (by rw [List.length_append]; omega)
    rw [List.length_append] at z1
    have z2 := zzSkipSpace_any none c xs j w3 hX3 (by omega) hj
    have z3 := zzSkipSpace_any (some ⟨w.heap.size, 0, none⟩) ys.length ys 0 w3 hY3 (by omega) (by omega)
    have Z1 := hid z1
    have Z2 := hid z2
    have Z3 := hid z3
    clear z1 z2 z3 hX3 hY3 hBj
    go_wp2_with fail
    go_at_call 9
    refine Z1.out.mono ?_
    clear Z1
    rintro e w' ⟨r, rfl, hw, hr⟩
    have hw' := hw.symm; subst hw'; clear hw
    have R1 := hid hr
    clear hr
    go_wp2_with fail
    go_at_call 9
    refine Z2.out.mono ?_
    clear Z2
    rintro e w' ⟨s, rfl, hw, hr⟩
    have hw' := hw.symm; subst hw'; clear hw
    have R2 := hid hr
    clear hr
    go_wp2_with fail
    go_at_call 9
    refine Z3.out.mono ?_
    clear Z3
    rintro e w' ⟨q, rfl, hw, hr⟩
    have hw' := hw.symm; subst hw'; clear hw
    have R3 := hid hr
    clear hr
    have g5 : j ≤ r := R1.out.1
    have g6 : r ≤ xs.length + ys.length := by have := R1.out.2.1; rw [List.length_append] at this; exact this
    have g7 : (j : Int) ≤ (r : Int) := by omega
    have g8 : (r : Int) ≤ (xs.length : Int) + (ys.length : Int) := by omega
    go_wp2_with fail
    have G5 := hid g5
    clear g5 g7
    rename ¬ r < j ∧ _ => hbr
    clear hbr
    go_loopw [13] (fun i' wr => ∃ k : Nat, j ≤ k ∧ i' = .int .i64 k ∧ Hid (k ≤ r ∧ wr = w3)) (fun i' _ => r - (intOf i').toNat)
    case atStart => exact ⟨j, Nat.le_refl _, rfl, hid ⟨G5.out, rfl⟩⟩
    case round =>
      obtain ⟨k, hjk, rfl, HK⟩ := hrel
      have hk : k ≤ r := HK.out.1
      have hwr : wr = w3 := HK.out.2
      clear HK
      subst wr
      by_cases hlk : k < r
      · rcases HH.out.2 with h0 | ⟨b, off, ho, hc⟩
        · have := congrArg List.length h0
          rw [List.length_append, List.length_nil] at this
          omega
        subst ho
        obtain ⟨y, hy⟩ : ∃ y, y = (xs ++ ys).getD k 0 := ⟨_, rfl⟩
        have hcell : w3.cell? ⟨b, off + k, none⟩ = some (.int .u8 y) := by rw [hy]; exact hc k (by rw [List.length_append]; omega)
        have hsp : isSp y = true := by rw [hy]; exact R1.out.2.2.1 k hjk hlk
        have h3 : (k : Int) < (r : Int) := by omega
        have h4 : (0 : Int) ≤ (k : Int) ∧ (k : Int) < (xs.length : Int) + (ys.length : Int) := by omega
        clear hy hc
        go_wp2_with fail
        go_at_call 10
        refine (jsonSpace_any y w3).mono ?_
        rintro e w' ⟨rfl, hw⟩
        have hw' := hw.symm; subst hw'; clear hw
        rw [hsp]
        clear hsp
        go_wp2
        go_roundw
        case rel => exact ⟨k + 1, by omega, by go_num, hid ⟨by omega, trivial⟩⟩
        case measure => simp [intOf]; omega
      · have t2 := skips_two R1.out R2.out R3.out
        by_cases hrl : r < xs.length + ys.length
        · rcases HH.out.2 with h0 | ⟨b, off, ho, hc⟩
          · have := congrArg List.length h0
            rw [List.length_append, List.length_nil] at this
            omega
          subst ho
          obtain ⟨y, hy⟩ : ∃ y, y = (xs ++ ys).getD r 0 := ⟨_, rfl⟩
          have hcell : w3.cell? ⟨b, off + r, none⟩ = some (.int .u8 y) := by rw [hy]; exact hc r (by rw [List.length_append]; omega)
          have hsp : isSp y = false := by rw [hy]; exact R1.out.2.2.2 (by rw [List.length_append]; exact hrl)
          have h3 : (r : Int) < (xs.length : Int) + (ys.length : Int) := by omega
          clear hy hc
          by_cases hs : s < xs.length
          · have hrs := t2.1 hs
            clear t2
            subst hrs
            go_wp2_with fail
            go_at_call 10
            refine (jsonSpace_any y w3).mono ?_
            rintro e w' ⟨rfl, hw⟩
            have hw' := hw.symm; subst hw'; clear hw
            rw [hsp]
            clear hsp
            go_wp2
            go_ret
            exact ⟨rfl, HH.out.1⟩
          · obtain ⟨t3, t4⟩ := t2.2 hs
            subst t3
            subst t4
            clear t2
            go_wp2_with fail
            go_at_call 10
            refine (jsonSpace_any y w3).mono ?_
            rintro e w' ⟨rfl, hw⟩
            have hw' := hw.symm; subst hw'; clear hw
            rw [hsp]
            clear hsp
            go_wp2
            go_ret
            exact ⟨by simp, HH.out.1⟩
        · by_cases hs : s < xs.length
          · have hrs := t2.1 hs
            exfalso
            omega
          · obtain ⟨t3, t4⟩ := t2.2 hs
            subst t3
            subst t4
            clear t2
            go_wp2
            go_ret
            exact ⟨by simp, HH.out.1⟩

set_option maxRecDepth 20000 in
set_option maxHeartbeats 4000000 in
theorem law3_sn (a : Addr) (c d : Nat) (xs ys : List Int) (j : Nat) (w : World) (h : BytesAt w (some a) xs) (h' : BytesAt w none ys) (hm : xs.length ≤ 9223372036854775807) (hm' : ys.length ≤ 9223372036854775807) (g1 : xs.length ≤ 524288) (g2 : ys.length ≤ 524288) (hj : j ≤ xs.length) :
    Calls Try.prog 3 #[.slice (some a) xs.length c, .slice none ys.length d, .int .i64 j] w (TrueBelow w) := by
  have hq := neqnil22
  have g3 : (0 : Int) ≤ (j : Int) := by omega
  have g4 : (j : Int) ≤ (xs.length : Int) := by omega
  have hmk1 := run_make_row' (P := Try.prog) 22 5 (.int .u8 0) 1 Try.underlying22 Try.info5 rfl .i64 .i64 xs.length (by omega) (by omega)
  obtain ⟨w1, hcp1, hbb1, hBB1⟩ := run_copyAll w (some a) c xs h
  have hb1 : Below w.heap.size w w1 := hbb1
  have hb2 : Below w.heap.size w w1 := hb1
  have hX : BytesAt w1 (some ⟨w.heap.size, 0, none⟩) xs := hBB1
  have hY : BytesAt w1 none ys := h'.below hb2
  go_enter Try.func3, Try.ntmps3
  go_wp2_with fail
  go_at_call 7
  refine (zz7_any (some a) none xs.length c ys.length d (.int .i64 j) w hm hm').mono ?_
  rintro e w' ⟨bb, rfl, hw, _⟩
  have hw' := hw.symm; subst hw'; clear hw
  cases bb with
  | false =>
    go_wp2
    go_ret
    exact ⟨rfl, Below.refl _ _⟩
  | true =>
    go_wp2_with fail
    clear hq hcp1 hmk1 hBB1 hbb1
    clear hb1
    go_at_call 8
    refine (join_any (some ⟨w.heap.size, 0, none⟩) none xs.length d xs ys w1 hX hY (by omega) (by omega)).mono ?_
    rintro e w3 ⟨oj, cj, rfl, hb3, hBj⟩
    have hb13 : Below w.heap.size w w3 := hb2.trans (hb3.mono hb2.size)
    have hX3 := hX.below hb3
    have hY3 := hY.below hb3
    have HH := hid (And.intro hb13 hBj)
    clear hb2 hb3 hb13 hX hY h h'
    have z1 := zzSkipSpace_any oj cj (xs ++ ys) j w3 hBj (by rw [List.length_append]; omega) (by rw [List.length_append]; omega)
    rw [List.length_append] at z1
    have z2 := zzSkipSpace_any (some ⟨w.heap.size, 0, none⟩) xs.length xs j w3 hX3 (by omega) hj
    have z3 := zzSkipSpace_any none d ys 0 w3 hY3 (by omega) (by omega)
    have Z1 := hid z1
    have Z2 := hid z2
    have Z3 := hid z3
    clear z1 z2 z3 hX3 hY3 hBj
    go_wp2_with fail
    go_at_call 9
    refine Z1.out.mono ?_
    clear Z1
    rintro e w' ⟨r, rfl, hw, hr⟩
    have hw' := hw.symm; subst hw'; clear hw
    have R1 := hid hr
    clear hr
    go_wp2_with fail
    go_at_call 9
    refine Z2.out.mono ?_
    clear Z2
    rintro e w' ⟨s, rfl, hw, hr⟩
    have hw' := hw.symm; subst hw'; clear hw
    have R2 := hid hr
    clear hr
    go_wp2_with fail
    go_at_call 9
    refine Z3.out.mono ?_
    clear Z3
    rintro e w' ⟨q, rfl, hw, hr⟩
    have hw' := hw.symm; subst hw'; clear hw
    have R3 := hid hr
    clear hr
    have g5 : j ≤ r := R1.out.1
    have g6 : r ≤ xs.length + ys.length := by have := R1.out.2.1; rw [List.length_append] at this; exact this
    have g7 : (j : Int) ≤ (r : Int) := by omega
    have g8 : (r : Int) ≤ (xs.length : Int) + (ys.length : Int) := by omega
    go_wp2_with fail
    have G5 := hid g5
    clear g5 g7
    rename ¬ r < j ∧ _ => hbr
    clear hbr
    go_loopw [13] (fun i' wr => ∃ k : Nat, j ≤ k ∧ i' = .int .i64 k ∧ Hid (k ≤ r ∧ wr = w3)) (fun i' _ => r - (intOf i').toNat)
    case atStart => exact ⟨j, Nat.le_refl _, rfl, hid ⟨G5.out, rfl⟩⟩
    case round =>
      obtain ⟨k, hjk, rfl, HK⟩ := hrel
      have hk : k ≤ r := HK.out.1
      have hwr : wr = w3 := HK.out.2
      clear HK
      subst wr
      by_cases hlk : k < r
      · rcases HH.out.2 with h0 | ⟨b, off, ho, hc⟩
        · have := congrArg List.length h0
          rw [List.length_append, List.length_nil] at this
          omega
        subst ho
        obtain ⟨y, hy⟩ : ∃ y, y = (xs ++ ys).getD k 0 := ⟨_, rfl⟩
        have hcell : w3.cell? ⟨b, off + k, none⟩ = some (.int .u8 y) := by rw [hy]; exact hc k (by rw [List.length_append]; omega)
        have hsp : isSp y = true := by rw [hy]; exact R1.out.2.2.1 k hjk hlk
        have h3 : (k : Int) < (r : Int) := by omega
        have h4 : (0 : Int) ≤ (k : Int) ∧ (k : Int) < (xs.length : Int) + (ys.length : Int) := by omega
        clear hy hc
        go_wp2_with fail
        go_at_call 10
        refine (jsonSpace_any y w3).mono ?_
        rintro e w' ⟨rfl, hw⟩
        have hw' := hw.symm; subst hw'; clear hw
        rw [hsp]
        clear hsp
        go_wp2
        go_roundw
        case rel => exact ⟨k + 1, by omega, by go_num, hid ⟨by omega, trivial⟩⟩
        case measure => simp [intOf]; omega
      · have t2 := skips_two R1.out R2.out R3.out
        by_cases hrl : r < xs.length + ys.length
        · rcases HH.out.2 with h0 | ⟨b, off, ho, hc⟩
          · have := congrArg List.length h0
            rw [List.length_append, List.length_nil] at this
            omega
          subst ho
          obtain ⟨y, hy⟩ : ∃ y, y = (xs ++ ys).getD r 0 := ⟨_, rfl⟩
          have hcell : w3.cell? ⟨b, off + r, none⟩ = some (.int .u8 y) := by rw [hy]; exact hc r (by rw [List.length_append]; omega)
          have hsp : isSp y = false := by rw [hy]; exact R1.out.2.2.2 (by rw [List.length_append]; exact hrl)
          have h3 : (r : Int) < (xs.length : Int) + (ys.length : Int) := by omega
          clear hy hc
          by_cases hs : s < xs.length
          · have hrs := t2.1 hs
            clear t2
            subst hrs
            go_wp2_with fail
            go_at_call 10
            refine (jsonSpace_any y w3).mono ?_
            rintro e w' ⟨rfl, hw⟩
            have hw' := hw.symm; subst hw'; clear hw
            rw [hsp]
            clear hsp
            go_wp2
            go_ret
            exact ⟨rfl, HH.out.1⟩
          · obtain ⟨t3, t4⟩ := t2.2 hs
            subst t3
            subst t4
            clear t2
            go_wp2_with fail
            go_at_call 10
            refine (jsonSpace_any y w3).mono ?_
            rintro e w' ⟨rfl, hw⟩
            have hw' := hw.symm; subst hw'; clear hw
            rw [hsp]
            clear hsp
            go_wp2
            go_ret
            exact ⟨by simp, HH.out.1⟩
        · by_cases hs : s < xs.length
          · have hrs := t2.1 hs
            exfalso
            omega
          · obtain ⟨t3, t4⟩ := t2.2 hs
            subst t3
            subst t4
            clear t2
            go_wp2
            go_ret
            exact ⟨by simp, HH.out.1⟩

set_option maxRecDepth 20000 in
set_option maxHeartbeats 4000000 in
theorem law3_ss (a : Addr) (a' : Addr) (c d : Nat) (xs ys : List Int) (j : Nat) (w : World) (h : BytesAt w (some a) xs) (h' : BytesAt w (some a') ys) (hm : xs.length ≤ 9223372036854775807) (hm' : ys.length ≤ 9223372036854775807) (g1 : xs.length ≤ 524288) (g2 : ys.length ≤ 524288) (hj : j ≤ xs.length) :
    Calls Try.prog 3 #[.slice (some a) xs.length c, .slice (some a') ys.length d, .int .i64 j] w (TrueBelow w) := by
  have hq := neqnil22
  have g3 : (0 : Int) ≤ (j : Int) := by omega
  have g4 : (j : Int) ≤ (xs.length : Int) := by omega
  have hmk1 := run_make_row' (P := Try.prog) 22 5 (.int .u8 0) 1 Try.underlying22 Try.info5 rfl .i64 .i64 xs.length (by omega) (by omega)
  obtain ⟨w1, hcp1, hbb1, hBB1⟩ := run_copyAll w (some a) c xs h
  have hb1 : Below w.heap.size w w1 := hbb1
  have hmk2 := run_make_row' (P := Try.prog) 22 5 (.int .u8 0) 1 Try.underlying22 Try.info5 rfl .i64 .i64 ys.length (by omega) (by omega)
  obtain ⟨w2, hcp2, hbb2, hBB2⟩ := run_copyAll w1 (some a') d ys (h'.below hb1)
  have hb2 : Below w.heap.size w w2 := hb1.trans (hbb2.mono hb1.size)
  have hX : BytesAt w2 (some ⟨w.heap.size, 0, none⟩) xs := hBB1.below hbb2
  have hY : BytesAt w2 (some ⟨w1.heap.size, 0, none⟩) ys := hBB2
  go_enter Try.func3, Try.ntmps3
  go_wp2_with fail
  go_at_call 7
  refine (zz7_any (some a) (some a') xs.length c ys.length d (.int .i64 j) w hm hm').mono ?_
  rintro e w' ⟨bb, rfl, hw, _⟩
  have hw' := hw.symm; subst hw'; clear hw
  cases bb with
  | false =>
    go_wp2
    go_ret
    exact ⟨rfl, Below.refl _ _⟩
  | true =>
    go_wp2_with fail
    clear hq hcp1 hmk1 hBB1 hbb1 hcp2 hmk2 hBB2 hbb2
    clear hb1
    go_at_call 8
    refine (join_any (some ⟨w.heap.size, 0, none⟩) (some ⟨w1.heap.size, 0, none⟩) xs.length ys.length xs ys w2 hX hY (by omega) (by omega)).mono ?_
    rintro e w3 ⟨oj, cj, rfl, hb3, hBj⟩
    have hb13 : Below w.heap.size w w3 := hb2.trans (hb3.mono hb2.size)
    have hX3 := hX.below hb3
    have hY3 := hY.below hb3
    have HH := hid (And.intro hb13 hBj)
    clear hb2 hb3 hb13 hX hY h h'
    have z1 := zzSkipSpace_any oj cj (xs ++ ys) j w3 hBj (by rw [List.length_append]; omega) (by rw [List.length_append]; omega)
    rw [List.length_append] at z1
    have z2 := zzSkipSpace_any (some ⟨w.heap.size, 0, none⟩) xs.length xs j w3 hX3 (by omega) hj
    have z3 := zzSkipSpace_any (some ⟨w1.heap.size, 0, none⟩) ys.length ys 0 w3 hY3 (by omega) (by omega)
    have Z1 := hid z1
    have Z2 := hid z2
    have Z3 := hid z3
    clear z1 z2 z3 hX3 hY3 hBj
    go_wp2_with fail
    go_at_call 9
    refine Z1.out.mono ?_
    clear Z1
    rintro e w' ⟨r, rfl, hw, hr⟩
    have hw' := hw.symm; subst hw'; clear hw
    have R1 := hid hr
    clear hr
    go_wp2_with fail
    go_at_call 9
    refine Z2.out.mono ?_
    clear Z2
    rintro e w' ⟨s, rfl, hw, hr⟩
    have hw' := hw.symm; subst hw'; clear hw
    have R2 := hid hr
    clear hr
    go_wp2_with fail
    go_at_call 9
    refine Z3.out.mono ?_
    clear Z3
    rintro e w' ⟨q, rfl, hw, hr⟩
    have hw' := hw.symm; subst hw'; clear hw
    have R3 := hid hr
    clear hr
    have g5 : j ≤ r := R1.out.1
    have g6 : r ≤ xs.length + ys.length := by have := R1.out.2.1; rw [List.length_append] at this; exact this
    have g7 : (j : Int) ≤ (r : Int) := by omega
    have g8 : (r : Int) ≤ (xs.length : Int) + (ys.length : Int) := by omega
    go_wp2_with fail
    have G5 := hid g5
    clear g5 g7
    rename ¬ r < j ∧ _ => hbr
    clear hbr
    go_loopw [13] (fun i' wr => ∃ k : Nat, j ≤ k ∧ i' = .int .i64 k ∧ Hid (k ≤ r ∧ wr = w3)) (fun i' _ => r - (intOf i').toNat)
    case atStart => exact ⟨j, Nat.le_refl _, rfl, hid ⟨G5.out, rfl⟩⟩
    case round =>
      obtain ⟨k, hjk, rfl, HK⟩ := hrel
      have hk : k ≤ r := HK.out.1
      have hwr : wr = w3 := HK.out.2
      clear HK
      subst wr
      by_cases hlk : k < r
      · rcases HH.out.2 with h0 | ⟨b, off, ho, hc⟩
        · have := congrArg List.length h0
          rw [List.length_append, List.length_nil] at this
          omega
        subst ho
        obtain ⟨y, hy⟩ : ∃ y, y = (xs ++ ys).getD k 0 := ⟨_, rfl⟩
        have hcell : w3.cell? ⟨b, off + k, none⟩ = some (.int .u8 y) := by rw [hy]; exact hc k (by rw [List.length_append]; omega)
        have hsp : isSp y = true := by rw [hy]; exact R1.out.2.2.1 k hjk hlk
        have h3 : (k : Int) < (r : Int) := by omega
        have h4 : (0 : Int) ≤ (k : Int) ∧ (k : Int) < (xs.length : Int) + (ys.length : Int) := by omega
        clear hy hc
        go_wp2_with fail
        go_at_call 10
        refine (jsonSpace_any y w3).mono ?_
        rintro e w' ⟨rfl, hw⟩
        have hw' := hw.symm; subst hw'; clear hw
        rw [hsp]
        clear hsp
        go_wp2
        go_roundw
        case rel => exact ⟨k + 1, by omega, by go_num, hid ⟨by omega, trivial⟩⟩
        case measure => simp [intOf]; omega
      · have t2 := skips_two R1.out R2.out R3.out
        by_cases hrl : r < xs.length + ys.length
        · rcases HH.out.2 with h0 | ⟨b, off, ho, hc⟩
          · have := congrArg List.length h0
            rw [List.length_append, List.length_nil] at this
            omega
          subst ho
          obtain ⟨y, hy⟩ : ∃ y, y = (xs ++ ys).getD r 0 := ⟨_, rfl⟩
          have hcell : w3.cell? ⟨b, off + r, none⟩ = some (.int .u8 y) := by rw [hy]; exact hc r (by rw [List.length_append]; omega)
          have hsp : isSp y = false := by rw [hy]; exact R1.out.2.2.2 (by rw [List.length_append]; exact hrl)
          have h3 : (r : Int) < (xs.length : Int) + (ys.length : Int) := by omega
          clear hy hc
          by_cases hs : s < xs.length
          · have hrs := t2.1 hs
            clear t2
            subst hrs
            go_wp2_with fail
            go_at_call 10
            refine (jsonSpace_any y w3).mono ?_
            rintro e w' ⟨rfl, hw⟩
            have hw' := hw.symm; subst hw'; clear hw
            rw [hsp]
            clear hsp
            go_wp2
            go_ret
            exact ⟨rfl, HH.out.1⟩
          · obtain ⟨t3, t4⟩ := t2.2 hs
            subst t3
            subst t4
            clear t2
            go_wp2_with fail
            go_at_call 10
            refine (jsonSpace_any y w3).mono ?_
            rintro e w' ⟨rfl, hw⟩
            have hw' := hw.symm; subst hw'; clear hw
            rw [hsp]
            clear hsp
            go_wp2
            go_ret
            exact ⟨by simp, HH.out.1⟩
        · by_cases hs : s < xs.length
          · have hrs := t2.1 hs
            exfalso
            omega
          · obtain ⟨t3, t4⟩ := t2.2 hs
            subst t3
            subst t4
            clear t2
            go_wp2
            go_ret
            exact ⟨by simp, HH.out.1⟩

set_option maxHeartbeats 2000000 in
theorem law3_any (o p : Option Addr) (c d : Nat) (xs ys : List Int) (i : Int) (w : World) (h : BytesAt w o xs) (h' : BytesAt w p ys) (hm : xs.length ≤ 9223372036854775807) (hm' : ys.length ≤ 9223372036854775807) :
    Calls Try.prog 3 #[.slice o xs.length c, .slice p ys.length d, .int .i64 i] w (TrueBelow w) := by
  by_cases g1 : xs.length ≤ 524288 ∧ ys.length ≤ 524288 ∧ 0 ≤ i ∧ i ≤ (xs.length : Int)
  · obtain ⟨g1, g2, g3, g4⟩ := g1
    obtain ⟨j, rfl⟩ : ∃ j : Nat, i = j := ⟨i.toNat, by omega⟩
    have hj : j ≤ xs.length := by omega
    cases o with
    | none =>
      cases p with
      | none => exact law3_nn c d xs ys j w h h' hm hm' g1 g2 hj
      | some a' => exact law3_ns a' c d xs ys j w h h' hm hm' g1 g2 hj
    | some a =>
      cases p with
      | none => exact law3_sn a c d xs ys j w h h' hm hm' g1 g2 hj
      | some a' => exact law3_ss a a' c d xs ys j w h h' hm hm' g1 g2 hj
  · go_enter Try.func3, Try.ntmps3
    go_wp2_with fail
    go_at_call 7
    refine (zz7_any o p xs.length c ys.length d (.int .i64 i) w hm hm').mono ?_
    rintro e w' ⟨bb, rfl, hw, _⟩
    have hw' := hw.symm; subst hw'; clear hw
    cases bb with
    | false =>
      go_wp2
      go_ret
      exact ⟨rfl, Below.refl _ _⟩
    | true =>
      by_cases k1 : xs.length ≤ 524288
      · by_cases k2 : ys.length ≤ 524288
        · by_cases k3 : i < 0
          · clear g1
            go_wp2
            go_ret
            exact ⟨rfl, Below.refl _ _⟩
          · have k4 : (xs.length : Int) < i := by
              by_cases hh : (xs.length : Int) < i
              · exact hh
              · exact absurd ⟨k1, k2, by omega, by omega⟩ g1
            clear g1
            go_wp2
            go_ret
            exact ⟨rfl, Below.refl _ _⟩
        · clear g1
          go_wp2
          go_ret
          exact ⟨rfl, Below.refl _ _⟩
      · clear g1
        go_wp2
        go_ret
        exact ⟨rfl, Below.refl _ _⟩
end Go.Proofs.Qxb6617257a
