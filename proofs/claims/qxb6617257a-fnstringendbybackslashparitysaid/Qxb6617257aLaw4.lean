/-
  SEAT b6617257a: FnStringEndByBackslashParity (4).
-/
import Derived.Test.Qxb6617257aStr
import Derived.Test.Qxb6617257aZz
namespace Go.Proofs.Qxb6617257a
open Go.RowKit Go.Deep

set_option maxHeartbeats 2000000 in
theorem law4_any (o : Option Addr) (c : Nat) (zs : List Int) (i : Int) (w : World) (h : BytesAt w o zs) (hm : zs.length ≤ 9223372036854775807) :
    Calls Try.prog 4 #[.slice o zs.length c, .int .i64 i] w (TrueBelow w) := by
  by_cases h1 : zs.length ≤ 1048576
  · have hz : decide (zs.length ≤ 1048576) = true := decide_eq_true h1
    by_cases h2 : i < 0
    · go_enter Try.func4, Try.ntmps4
      go_wp2_with fail
      go_at_call 11
      refine (zz11_any o zs.length c (.int .i64 i) w hm).mono ?_
      rintro e w' ⟨rfl, hw⟩
      have hw' := hw.symm; subst hw'; clear hw
      rw [hz]
      clear hz
      go_wp2
      go_ret
      exact ⟨rfl, Below.refl _ _⟩
    · by_cases h3 : (zs.length : Int) < i
      · go_enter Try.func4, Try.ntmps4
        go_wp2_with fail
        go_at_call 11
        refine (zz11_any o zs.length c (.int .i64 i) w hm).mono ?_
        rintro e w' ⟨rfl, hw⟩
        have hw' := hw.symm; subst hw'; clear hw
        rw [hz]
        clear hz
        go_wp2
        go_ret
        exact ⟨rfl, Below.refl _ _⟩
      · obtain ⟨j, rfl⟩ : ∃ j : Nat, i = j := ⟨i.toNat, by omega⟩
        have hj : j ≤ zs.length := by omega
        have hq := neqnil22
        cases o with
        | none =>
          go_enter Try.func4, Try.ntmps4
          go_wp2_with fail
          go_at_call 11
          refine (zz11_any none zs.length c (.int .i64 j) w hm).mono ?_
          rintro e w' ⟨rfl, hw⟩
          have hw' := hw.symm; subst hw'; clear hw
          rw [hz]
          clear hz
          go_wp2_with fail
          go_at_call 12
          refine (zzStringEnd_any none c zs j w h (by omega) hj).mono ?_
          rintro e w' ⟨rfl, hw⟩
          have hw' := hw.symm; subst hw'; clear hw
          go_wp2_with fail
          go_at_call 13
          refine (parity_any none c zs j w h (by omega) hj).mono ?_
          rintro e w' ⟨rfl, hw⟩
          have hw' := hw.symm; subst hw'; clear hw
          go_wp2
          go_ret
          exact ⟨by simp, Below.refl _ _⟩
        | some a =>
          have hmk := run_make_row' (P := Try.prog) 22 5 (.int .u8 0) 1 Try.underlying22 Try.info5 rfl .i64 .i64 zs.length (by omega) (by omega)
          obtain ⟨w1, hcp, hb1, hB1⟩ := run_copyAll w (some a) c zs h
          go_enter Try.func4, Try.ntmps4
          go_wp2_with fail
          go_at_call 11
          refine (zz11_any (some a) zs.length c (.int .i64 j) w hm).mono ?_
          rintro e w' ⟨rfl, hw⟩
          have hw' := hw.symm; subst hw'; clear hw
          rw [hz]
          clear hz
          go_wp2_with fail
          clear hcp hmk hq
          go_at_call 12
          refine (zzStringEnd_any _ _ zs j w1 hB1 (by omega) hj).mono ?_
          rintro e w' ⟨rfl, hw⟩
          have hw' := hw.symm; subst hw'; clear hw
          go_wp2_with fail
          go_at_call 13
          refine (parity_any _ _ zs j w1 hB1 (by omega) hj).mono ?_
          rintro e w' ⟨rfl, hw⟩
          have hw' := hw.symm; subst hw'; clear hw
          go_wp2
          go_ret
          exact ⟨by simp, hb1⟩
  · have hz : decide (zs.length ≤ 1048576) = false := decide_eq_false h1
    go_enter Try.func4, Try.ntmps4
    go_wp2_with fail
    go_at_call 11
    refine (zz11_any o zs.length c (.int .i64 i) w hm).mono ?_
    rintro e w' ⟨rfl, hw⟩
    have hw' := hw.symm; subst hw'; clear hw
    rw [hz]
    clear hz
    go_wp2
    go_ret
    exact ⟨rfl, Below.refl _ _⟩
end Go.Proofs.Qxb6617257a
