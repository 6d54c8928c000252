import Derived.Test.Qxb6617182aProg
import Derived.Test.Qxb6617182aBase
namespace Go.Proofs.Qxb6617182a
open Go.RowKit Go.Deep

set_option maxHeartbeats 2000000 in
theorem size_any (o1 o2 o3 : Option Addr) (n1 c1 n2 c2 n3 c3 : Nat) (A1 A2 : Nat → Option Addr) (L1 C1 L2 C2 : Nat → Nat) (w : World)
    (h1 : SlicesAt w o1 n1 A1 L1 C1) (h2 : SlicesAt w o2 n2 A2 L2 C2) (m1 : n1 ≤ maxLen) (m2 : n2 ≤ maxLen) (m3 : n3 ≤ maxLen)
    (ml1 : ∀ r, r < n1 → L1 r ≤ maxLen) (ml2 : ∀ r, r < n2 → L2 r ≤ maxLen) :
    Calls Try.prog 7 #[.slice o1 n1 c1, .slice o2 n2 c2, .slice o3 n3 c3] w fun e w' =>
      w' = w ∧ RetB e (8 * (n1 + n2 + n3) + 8 * sumTo L1 n1 + 24 * sumTo L2 n2 ≤ 1048576) := by
  unfold maxLen at m1 m2 m3
  unfold maxLen at ml1 ml2
  by_cases g1 : (131072 : Int) < (n1 : Int)
  · go_enter Try.func7, Try.ntmps7
    go_wp2
    go_ret
    exact ⟨rfl, RetB.no _⟩
  by_cases g2 : (131072 : Int) < (n2 : Int)
  · go_enter Try.func7, Try.ntmps7
    go_wp2
    go_ret
    exact ⟨rfl, RetB.no _⟩
  by_cases g3 : (131072 : Int) < (n3 : Int)
  · go_enter Try.func7, Try.ntmps7
    go_wp2
    go_ret
    exact ⟨rfl, RetB.no _⟩
  go_enter Try.func7, Try.ntmps7
  go_wp2
  go_loop [7, 8] (fun t i => ∃ k : Nat, k ≤ n1 ∧ i = .int .i64 k ∧ t = .int .i64 ((8 * (n1 + n2 + n3) + 8 * sumTo L1 k : Nat) : Int) ∧ 8 * (n1 + n2 + n3) + 8 * sumTo L1 k ≤ 20000000) (fun _ i => n1 - (intOf i).toNat)
  case atStart => exact ⟨0, Nat.zero_le _, rfl, by simp [sumTo]; omega, by simp [sumTo]; omega⟩
  case round =>
    obtain ⟨k, hk, rfl, rfl, hb⟩ := hrel
    by_cases hlt : k < n1
    · rcases h1 with h1 | ⟨b, off, ho, hc⟩
      · omega
      subst ho
      have hck := hc k hlt
      have hL := ml1 k hlt
      clear ml1 hc
      by_cases ht : ((8 * (n1 + n2 + n3) + 8 * sumTo L1 k : Nat) : Int) ≤ 1048576
      · by_cases hl : (1048576 : Int) < (L1 k : Int)
        · clear h2 ml2
          go_wp2
          go_ret
          exact ⟨rfl, RetB.no _⟩
        · clear h2 ml2
          go_wp2
          go_round
          case rel => exact ⟨k + 1, by omega, by go_num, by simp only [sumTo]; go_num, by simp only [sumTo]; omega⟩
          case measure => simp [intOf]; omega
      · obtain ⟨T, hT⟩ : ∃ T, T = 8 * (n1 + n2 + n3) + 8 * sumTo L1 k := ⟨_, rfl⟩
        rw [← hT] at hb ht ⊢
        have HT : Hid (T = 8 * (n1 + n2 + n3) + 8 * sumTo L1 k) := hT
        clear hT
        go_wp2
        go_loop [7, 9] (fun t i => t = .int .i64 T ∧ i = .int .i64 0) (fun _ _ => 0)
        case atStart => exact ⟨rfl, rfl⟩
        case round =>
          obtain ⟨rfl, rfl⟩ := hrel
          by_cases hn : n2 = 0
          all_goals
            go_wp2
            go_ret
            refine ⟨rfl, RetB.mk _ fun h => ?_⟩
            simp at h
            omega
    · obtain ⟨T, hT⟩ : ∃ T, T = 8 * (n1 + n2 + n3) + 8 * sumTo L1 n1 := ⟨_, rfl⟩
      have : k = n1 := by omega
      subst this
      rw [← hT] at hb ⊢
      have HT : Hid (T = 8 * (k + n2 + n3) + 8 * sumTo L1 k) := hT
      clear hT
      go_wp2
      go_loop [7, 9] (fun t i => ∃ j : Nat, j ≤ n2 ∧ i = .int .i64 j ∧ t = .int .i64 ((T + 24 * sumTo L2 j : Nat) : Int) ∧ T + 24 * sumTo L2 j ≤ 60000000) (fun _ i => n2 - (intOf i).toNat)
      case atStart => exact ⟨0, Nat.zero_le _, rfl, by simp [sumTo], by simp [sumTo]; omega⟩
      case round =>
        obtain ⟨j, hj, rfl, rfl, hb2⟩ := hrel
        by_cases hlt : j < n2
        · rcases h2 with h2 | ⟨b, off, ho, hc⟩
          · omega
          subst ho
          have hck := hc j hlt
          have hL := ml2 j hlt
          clear ml2 hc ml1 h1
          by_cases ht : ((T + 24 * sumTo L2 j : Nat) : Int) ≤ 1048576
          · by_cases hl : (1048576 : Int) < (L2 j : Int)
            · go_wp2
              go_ret
              exact ⟨rfl, RetB.no _⟩
            · go_wp2
              go_round
              case rel => exact ⟨j + 1, by omega, by go_num, by simp only [sumTo]; go_num, by simp only [sumTo]; omega⟩
              case measure => simp [intOf]; omega
          · go_wp2
            go_ret
            refine ⟨rfl, RetB.mk _ fun h => ?_⟩
            simp at h
            omega
        · have : j = n2 := by omega
          subst this
          clear h1 h2 ml1 ml2
          go_wp2
          go_ret
          refine ⟨rfl, RetB.mk _ fun h => ?_⟩
          have := HT.out
          simp at h
          omega
end Go.Proofs.Qxb6617182a
