import Derived.Test.Qxb6617182aProg
import Derived.Test.Qxb6617182aBase
namespace Go.Proofs.Qxb6617182a
open Go.RowKit Go.Deep

set_option maxHeartbeats 2000000 in
theorem zz27_any (o1 o2 : Option Addr) (n1 c1 n2 c2 : Nat) (v : Int) (back : Bool) (A1 A2 : Nat → Option Addr) (L1 C1 L2 C2 : Nat → Nat) (w : World)
    (h1 : SlicesAt w o1 n1 A1 L1 C1) (h2 : SlicesAt w o2 n2 A2 L2 C2) (m1 : n1 ≤ maxLen) (m2 : n2 ≤ maxLen)
    (ml1 : ∀ r, r < n1 → L1 r ≤ maxLen) (ml2 : ∀ r, r < n2 → L2 r ≤ maxLen) :
    Calls Try.prog 27 #[.slice o1 n1 c1, .slice o2 n2 c2, .int .i64 v, .bool back] w fun e w' => w' = w ∧ RetB e True := by
  unfold maxLen at m1 m2 ml1 ml2
  by_cases g1 : (1048576 : Int) < (n1 : Int)
  · go_enter Try.func27, Try.ntmps27
    go_wp2
    go_ret
    exact ⟨rfl, RetB.no _⟩
  go_enter Try.func27, Try.ntmps27
  go_wp2
  go_loop [9, 10] (fun t i => ∃ k T : Nat, k ≤ n1 ∧ i = .int .i64 k ∧ t = .int .i64 (T : Int) ∧ T ≤ 1048576) (fun _ i => n1 - (intOf i).toNat)
  case atStart => exact ⟨0, n1, Nat.zero_le _, rfl, by simp, by omega⟩
  case round =>
    obtain ⟨k, T, hk, rfl, rfl, hb⟩ := hrel
    by_cases hlt : k < n1
    · rcases h1 with h1 | ⟨b, off, ho, hc⟩
      · omega
      subst ho
      have hck := hc k hlt
      have hL := ml1 k hlt
      clear ml1 hc h2 ml2
      by_cases hl : (1048576 : Int) < (L1 k : Int)
      · go_wp2
        go_ret
        exact ⟨rfl, RetB.no _⟩
      by_cases ht : (1048576 : Int) < (T : Int) + (L1 k : Int)
      · go_wp2
        go_ret
        exact ⟨rfl, RetB.no _⟩
      go_wp2
      go_round
      case rel => exact ⟨k + 1, T + L1 k, by omega, by go_num, by go_num, by omega⟩
      case measure => simp [intOf]; omega
    clear h1 ml1
    by_cases g2 : (1048576 : Int) < (n2 : Int)
    · go_wp2
      go_ret
      exact ⟨rfl, RetB.no _⟩
    by_cases g3 : (1048576 : Int) < (T : Int) + (n2 : Int)
    · go_wp2
      go_ret
      exact ⟨rfl, RetB.no _⟩
    go_wp2
    go_loop [9, 11] (fun t i => ∃ k T : Nat, k ≤ n2 ∧ i = .int .i64 k ∧ t = .int .i64 (T : Int) ∧ T ≤ 1048576) (fun _ i => n2 - (intOf i).toNat)
    case atStart => exact ⟨0, T + n2, Nat.zero_le _, rfl, by go_num, by omega⟩
    case round =>
      obtain ⟨j, T2, hj, rfl, rfl, hb2⟩ := hrel
      by_cases hlt2 : j < n2
      · rcases h2 with h2 | ⟨b, off, ho, hc⟩
        · omega
        subst ho
        have hck := hc j hlt2
        have hL := ml2 j hlt2
        clear ml2 hc
        by_cases hl : (1048576 : Int) < (L2 j : Int)
        · go_wp2
          go_ret
          exact ⟨rfl, RetB.no _⟩
        by_cases ht : (1048576 : Int) < (T2 : Int) + (L2 j : Int)
        · go_wp2
          go_ret
          exact ⟨rfl, RetB.no _⟩
        go_wp2
        go_round
        case rel => exact ⟨j + 1, T2 + L2 j, by omega, by go_num, by go_num, by omega⟩
        case measure => simp [intOf]; omega
      clear h2 ml2
      go_wp2
      go_ret
      exact ⟨rfl, RetB.mk _ fun _ => trivial⟩

end Go.Proofs.Qxb6617182a
