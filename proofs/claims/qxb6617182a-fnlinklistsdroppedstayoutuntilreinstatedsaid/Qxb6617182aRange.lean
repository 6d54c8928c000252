import Derived.Test.Qxb6617182aProg
import Derived.Test.Qxb6617182aBase
namespace Go.Proofs.Qxb6617182a
open Go.RowKit Go.Deep

set_option maxHeartbeats 2000000 in
theorem range_any (o : Option Addr) (n c : Nat) (A : Nat → Option Addr) (C : Nat → Nat) (Z : Nat → List Int) (w : World)
    (h : MatAt w o n A C Z) (m : n ≤ maxLen) (ml : ∀ r, r < n → (Z r).length ≤ maxLen) :
    Calls Try.prog 8 #[.slice o n c] w fun e w' => w' = w ∧ RetB e (∀ r, r < n → ∀ x ∈ Z r, 0 ≤ x ∧ x < n) := by
  unfold maxLen at m ml
  go_enter Try.func8, Try.ntmps8
  go_wp2
  go_loop [4] (fun i => ∃ k : Nat, k ≤ n ∧ i = .int .i64 k ∧ ∀ r, r < k → ∀ x ∈ Z r, 0 ≤ x ∧ x < n) (fun i => n - (intOf i).toNat)
  case atStart => exact ⟨0, Nat.zero_le _, rfl, fun r hr => by omega⟩
  case round =>
    obtain ⟨k, hk, rfl, hin⟩ := hrel
    have HI : Hid (∀ r, r < k → ∀ x ∈ Z r, 0 ≤ x ∧ x < n) := hin
    clear hin
    by_cases hlt : k < n
    · obtain ⟨h1, h2⟩ := h
      rcases h1 with h1 | ⟨b, off, ho, hc⟩
      · omega
      subst ho
      have hck : w.cell? ⟨b, off + k, none⟩ = some (.slice (A k) (Z k).length (C k)) := hc k hlt
      have hL := ml k hlt
      have hrow := h2 k hlt
      clear ml hc h2
      obtain ⟨zs, hzs⟩ : ∃ zs, zs = Z k := ⟨_, rfl⟩
      rw [← hzs] at hL hrow hck
      have HZ : Hid (zs = Z k) := hzs
      clear hzs
      go_wp2
      go_loop [6] (fun i => ∃ j : Nat, j ≤ zs.length ∧ i = .int .i64 j ∧ ∀ x ∈ zs.take j, 0 ≤ x ∧ x < n) (fun i => zs.length - (intOf i).toNat)
      case atStart => exact ⟨0, Nat.zero_le _, rfl, by simp⟩
      case round =>
        obtain ⟨j, hj, rfl, hin2⟩ := hrel
        have HJ : Hid (∀ x ∈ zs.take j, 0 ≤ x ∧ x < n) := hin2
        clear hin2
        by_cases hlt2 : j < zs.length
        · rcases hrow with hrow | ⟨b2, off2, ho2, hc2⟩
          · simp [hrow] at hlt2
          rw [ho2] at hck ⊢
          have hcj := hc2 j hlt2
          clear hc2
          obtain ⟨x, hx⟩ : ∃ x, x = zs.getD j 0 := ⟨_, rfl⟩
          rw [← hx] at hcj
          have HX : Hid (x = zs.getD j 0) := hx
          clear hx
          by_cases hx0 : x < 0
          · go_wp2
            go_ret
            exact ⟨rfl, RetB.no _⟩
          by_cases hx1 : (n : Int) ≤ x
          · go_wp2
            go_ret
            exact ⟨rfl, RetB.no _⟩
          go_wp2
          go_round
          case rel =>
            refine ⟨j + 1, by omega, by go_num, fun y hy => ?_⟩
            rw [List.take_succ_eq_append_getElem hlt2, List.mem_append] at hy
            rcases hy with hy | hy
            · exact HJ.out y hy
            · simp at hy
              have hxx := HX.out
              simp [List.getD, hlt2] at hxx
              subst hy
              omega
          case measure => simp [intOf]; omega
        · go_wp2
          go_round
          case rel =>
            refine ⟨k + 1, by omega, by go_num, fun r hr x hx => ?_⟩
            by_cases e : r = k
            · subst e
              rw [← HZ.out] at hx
              exact HJ.out x (by rw [List.take_of_length_le (by omega)]; exact hx)
            · exact HI.out r (by omega) x hx
          case measure => simp [intOf]; omega
    · clear h ml
      go_wp2
      go_ret
      refine ⟨rfl, RetB.mk _ fun _ => ?_⟩
      have : k = n := by omega
      subst this
      exact HI.out

end Go.Proofs.Qxb6617182a
