/-
  SEAT b6617257a: stringEnd (19), its outer name (12) and the count of backslashes (13).
-/
import Derived.Test.Qxb6617257aProg
import Derived.Test.Qxb6617257aBase
import Derived.Test.Qxb6617257aPlain
namespace Go.Proofs.Qxb6617257a
open Go.RowKit Go.Deep

/-- It returns this number, and nothing is turned. -/
def TellsInt (v : Int) (w : World) (e : Ending) (w' : World) : Prop := e = .returned (.int .i64 v) ∧ w' = w

theorem TellsInt.mk {u v : Int} {w : World} (h : u = v) : TellsInt u w (.returned (.int .i64 v)) w := ⟨by rw [h], rfl⟩

theorem tell_bs (zs : List Int) (k : Nat) (h : k < zs.length) (hx : zs.getD k 0 = 92) : tell k (sc (zs.drop k)) = tell (k + 2) (sc (zs.drop (k + 2))) := by
  rw [drop_cons zs k h, hx, sc_bs, List.drop_drop, tell_map]

theorem tell_q (zs : List Int) (k : Nat) (h : k < zs.length) (hx : zs.getD k 0 = 34) : tell k (sc (zs.drop k)) = (k : Int) + 1 := by
  rw [drop_cons zs k h, hx, sc_q]; rfl

theorem tell_other (zs : List Int) (k : Nat) (h : k < zs.length) (hx : zs.getD k 0 ≠ 92) (hy : zs.getD k 0 ≠ 34) : tell k (sc (zs.drop k)) = tell (k + 1) (sc (zs.drop (k + 1))) := by
  rw [drop_cons zs k h, sc_other _ _ hx hy, tell_map]

theorem tell_end (zs : List Int) (k : Nat) (h : ¬ k < zs.length) : tell k (sc (zs.drop k)) = -1 := by
  rw [List.drop_eq_nil_of_le (by omega)]; rfl

set_option maxHeartbeats 1000000 in
theorem stringEnd_any (o : Option Addr) (c : Nat) (zs : List Int) (i : Nat) (w : World) (h : BytesAt w o zs) (hm : zs.length ≤ 1048576000) (hi : i ≤ zs.length) :
    Calls Try.prog 19 #[.slice o zs.length c, .int .i64 i] w (TellsInt (strEnd zs i) w) := by
  by_cases he : i = zs.length
  · have hv : strEnd zs i = -1 := by unfold strEnd; rw [if_neg (by omega)]
    rw [hv]
    have h1 : ((i : Int) == (zs.length : Int)) = true := beq_iff_eq.2 (by omega)
    clear h hv he hi
    go_enter Try.func19, Try.ntmps19
    go_wp2
    go_ret
    exact ⟨rfl, rfl⟩
  · have hlt : i < zs.length := by omega
    rcases h with h | ⟨b, off, rfl, hc⟩
    · simp [h] at hlt
    obtain ⟨x, hx⟩ : ∃ x, x = zs.getD i 0 := ⟨_, rfl⟩
    have hcell : w.cell? ⟨b, off + i, none⟩ = some (.int .u8 x) := by rw [hx]; exact hc i hlt
    have h1 : ((i : Int) == (zs.length : Int)) = false := by simp; omega
    have h2 : (0 : Int) ≤ (i : Int) ∧ (i : Int) < (zs.length : Int) := by omega
    by_cases hq : x = 34
    · have hv : strEnd zs i = tell (i + 1) (sc (zs.drop (i + 1))) := by unfold strEnd; rw [if_pos ⟨by rw [← hx]; exact hq, hlt⟩]
      subst hq
      have HV := hid hv
      have HC := hid hc
      clear hv hx hc he
      go_enter Try.func19, Try.ntmps19
      go_wp2
      clear h1 h2 hcell
      go_loop [1] (fun i' => ∃ k : Nat, k ≤ zs.length + 1 ∧ i' = .int .i64 k ∧ Hid (strEnd zs i = tell k (sc (zs.drop k)))) (fun i' => zs.length + 1 - (intOf i').toNat)
      case atStart => exact ⟨i + 1, by omega, by go_num, hid HV.out⟩
      case round =>
        obtain ⟨k, hk, rfl, hr⟩ := hrel
        by_cases hlk : k < zs.length
        · obtain ⟨y, hy⟩ : ∃ y, y = zs.getD k 0 := ⟨_, rfl⟩
          have hcell : w.cell? ⟨b, off + k, none⟩ = some (.int .u8 y) := by rw [hy]; exact HC.out k hlk
          have h3 : (k : Int) < (zs.length : Int) := by omega
          have HY := hid hy
          clear hy
          by_cases g1 : y = 92
          · subst g1
            go_wp2
            go_round
            case rel => exact ⟨k + 2, by omega, by go_num, hid (hr.out.trans (tell_bs zs k hlk HY.out.symm))⟩
            case measure => simp [intOf]; omega
          · by_cases g2 : y = 34
            · subst g2
              go_wp2
              go_ret
              exact TellsInt.mk (hr.out.trans (tell_q zs k hlk HY.out.symm))
            · have g3 : (y == 92) = false := by simpa using g1
              have g4 : (y == 34) = false := by simpa using g2
              go_wp2
              go_round
              case rel => exact ⟨k + 1, by omega, by go_num, hid (hr.out.trans (tell_other zs k hlk (by rw [← HY.out]; exact g1) (by rw [← HY.out]; exact g2)))⟩
              case measure => simp [intOf]; omega
        · go_wp2
          go_ret
          exact TellsInt.mk (hr.out.trans (tell_end zs k hlk))
    · have hv : strEnd zs i = -1 := by unfold strEnd; rw [if_neg (by rw [← hx]; intro h; exact hq h.1)]
      rw [hv]
      have h3 : (x != 34) = true := by simpa using hq
      clear hc hv hx
      go_enter Try.func19, Try.ntmps19
      go_wp2
      go_ret
      exact ⟨rfl, rfl⟩

theorem zzStringEnd_any (o : Option Addr) (c : Nat) (zs : List Int) (i : Nat) (w : World) (h : BytesAt w o zs) (hm : zs.length ≤ 1048576000) (hi : i ≤ zs.length) :
    Calls Try.prog 12 #[.slice o zs.length c, .int .i64 i] w (TellsInt (strEnd zs i) w) := by
  go_enter Try.func12, Try.ntmps12
  go_wp2_with fail
  go_at_call 19
  refine (stringEnd_any o c zs i w h hm hi).mono ?_
  rintro e w' ⟨rfl, rfl⟩
  go_wp2
  go_ret
  exact ⟨rfl, rfl⟩

theorem tellp_bs (zs : List Int) (k run : Nat) (h : k < zs.length) (hx : zs.getD k 0 = 92) : tell k (pr (zs.drop k) run) = tell (k + 1) (pr (zs.drop (k + 1)) (run + 1)) := by
  rw [drop_cons zs k h, hx, pr, if_pos rfl, tell_map]

theorem tellp_q (zs : List Int) (k run : Nat) (h : k < zs.length) (hx : zs.getD k 0 = 34) (hr : run % 2 = 0) : tell k (pr (zs.drop k) run) = (k : Int) + 1 := by
  rw [drop_cons zs k h, hx, pr, if_neg (by omega), if_pos ⟨rfl, hr⟩]; rfl

theorem tellp_other (zs : List Int) (k run : Nat) (h : k < zs.length) (hx : zs.getD k 0 ≠ 92) (hy : ¬ (zs.getD k 0 = 34 ∧ run % 2 = 0)) : tell k (pr (zs.drop k) run) = tell (k + 1) (pr (zs.drop (k + 1)) 0) := by
  rw [drop_cons zs k h, pr, if_neg hx, if_neg hy, tell_map]

theorem tellp_end (zs : List Int) (k run : Nat) (h : ¬ k < zs.length) : tell k (pr (zs.drop k) run) = -1 := by
  rw [List.drop_eq_nil_of_le (by omega)]; rfl

set_option maxHeartbeats 1000000 in
theorem parity_any (o : Option Addr) (c : Nat) (zs : List Int) (i : Nat) (w : World) (h : BytesAt w o zs) (hm : zs.length ≤ 1048576000) (hi : i ≤ zs.length) :
    Calls Try.prog 13 #[.slice o zs.length c, .int .i64 i] w (TellsInt (strEnd zs i) w) := by
  by_cases he : i = zs.length
  · have hv : strEnd zs i = -1 := by unfold strEnd; rw [if_neg (by omega)]
    rw [hv]
    have h1 : ((i : Int) == (zs.length : Int)) = true := beq_iff_eq.2 (by omega)
    clear h hv he hi
    go_enter Try.func13, Try.ntmps13
    go_wp2
    go_ret
    exact ⟨rfl, rfl⟩
  · have hlt : i < zs.length := by omega
    rcases h with h | ⟨b, off, rfl, hc⟩
    · simp [h] at hlt
    obtain ⟨x, hx⟩ : ∃ x, x = zs.getD i 0 := ⟨_, rfl⟩
    have hcell : w.cell? ⟨b, off + i, none⟩ = some (.int .u8 x) := by rw [hx]; exact hc i hlt
    have h1 : ((i : Int) == (zs.length : Int)) = false := by simp; omega
    have h2 : (0 : Int) ≤ (i : Int) ∧ (i : Int) < (zs.length : Int) := by omega
    by_cases hq : x = 34
    · have hv : strEnd zs i = tell (i + 1) (pr (zs.drop (i + 1)) 0) := by unfold strEnd; rw [if_pos ⟨by rw [← hx]; exact hq, hlt⟩, (pr_sc _ 0).1 rfl]
      subst hq
      have HV := hid hv
      have HC := hid hc
      clear hv hx hc he
      go_enter Try.func13, Try.ntmps13
      go_wp2
      clear h1 h2 hcell
      go_loop [5, 6] (fun r' i' => ∃ k run : Nat, k ≤ zs.length ∧ run ≤ k ∧ i' = .int .i64 k ∧ r' = .int .i64 run ∧ Hid (strEnd zs i = tell k (pr (zs.drop k) run))) (fun _ i' => zs.length - (intOf i').toNat)
      case atStart => exact ⟨i + 1, 0, by omega, by omega, by go_num, rfl, hid HV.out⟩
      case round =>
        obtain ⟨k, run, hk, hrk, rfl, rfl, hr⟩ := hrel
        by_cases hlk : k < zs.length
        · obtain ⟨y, hy⟩ : ∃ y, y = zs.getD k 0 := ⟨_, rfl⟩
          have hcell : w.cell? ⟨b, off + k, none⟩ = some (.int .u8 y) := by rw [hy]; exact HC.out k hlk
          have h3 : (k : Int) < (zs.length : Int) := by omega
          have HY := hid hy
          clear hy
          by_cases g1 : y = 92
          · subst g1
            go_wp2
            go_round
            case rel => exact ⟨k + 1, run + 1, by omega, by omega, by go_num, by go_num, hid (hr.out.trans (tellp_bs zs k run hlk HY.out.symm))⟩
            case measure => simp [intOf]; omega
          · have g3 : (y == 92) = false := by simpa using g1
            by_cases g2 : y = 34
            · subst g2
              by_cases g5 : run % 2 = 0
              · have g6 : ((run : Int) % 2 == 0) = true := by simp; omega
                have G5 := hid g5
                clear g5
                go_wp2
                go_ret
                exact TellsInt.mk (hr.out.trans (tellp_q zs k run hlk HY.out.symm G5.out))
              · have g6 : ((run : Int) % 2 == 0) = false := by simp; omega
                have G5 := hid g5
                clear g5
                go_wp2
                go_round
                case rel => exact ⟨k + 1, 0, by omega, by omega, by go_num, by go_num, hid (hr.out.trans (tellp_other zs k run hlk (by rw [← HY.out]; decide) (fun h => G5.out h.2)))⟩
                case measure => simp [intOf]; omega
            · have g4 : (y == 34) = false := by simpa using g2
              go_wp2
              go_round
              case rel => exact ⟨k + 1, 0, by omega, by omega, by go_num, by go_num, hid (hr.out.trans (tellp_other zs k run hlk (by rw [← HY.out]; exact g1) (fun h => g2 (by rw [HY.out]; exact h.1))))⟩
              case measure => simp [intOf]; omega
        · go_wp2
          go_ret
          exact TellsInt.mk (hr.out.trans (tellp_end zs k run hlk))
    · have hv : strEnd zs i = -1 := by unfold strEnd; rw [if_neg (by rw [← hx]; intro h; exact hq h.1)]
      rw [hv]
      have h3 : (x != 34) = true := by simpa using hq
      clear hc hv hx
      go_enter Try.func13, Try.ntmps13
      go_wp2
      go_ret
      exact ⟨rfl, rfl⟩
end Go.Proofs.Qxb6617257a
