/-
  SEAT b6618092a: b1InUnreserved (16).
-/
import Derived.Test.Qxb6618092aProg
import Derived.WalkKit
namespace Go.Proofs.Qxb6618092a
open Go.RowKit

/-- It answers so, and nothing is turned. -/
def TellsBool (b : Bool) (w : World) (e : Ending) (w' : World) : Prop := e = .returned (.bool b) ∧ w' = w

theorem hid {p : Prop} (h : p) : Hid p := h

/-- The law's own set of characters. -/
def U : ByteArray := ⟨#[45, 46, 95, 48, 49, 50, 51, 52, 53, 54, 55, 56, 57, 65, 66, 67, 68, 69, 70, 71, 72, 73, 74, 75, 76, 77, 78, 79, 80, 81, 82, 83, 84, 85, 86, 87, 88, 89, 90, 97, 98, 99, 100, 101, 102, 103, 104, 105, 106, 107, 108, 109, 110, 111, 112, 113, 114, 115, 116, 117, 118, 119, 120, 121, 122]⟩

theorem U_size : U.size = 65 := rfl

/-- Is it one of them? -/
def inU (x : Int) : Bool := U.data.toList.any (fun u => (u.toNat : Int) == x)

theorem inU_true {x : Int} {k : Nat} (hk : k < U.size) (h : ((U[k]'hk).toNat : Int) = x) : inU x = true := by
  unfold inU
  rw [List.any_eq_true]
  exact ⟨U[k]'hk, Array.getElem_mem_toList hk, beq_iff_eq.2 h⟩

theorem inU_false {x : Int} (h : ∀ k, (hk : k < U.size) → ((U[k]'hk).toNat : Int) ≠ x) : inU x = false := by
  unfold inU
  rw [List.any_eq_false]
  intro u hu
  obtain ⟨k, hk, rfl⟩ := List.mem_iff_getElem.1 hu
  have hk' : k < U.size := by simpa using hk
  intro hh
  exact h k hk' (eq_of_beq hh)

set_option maxHeartbeats 1000000 in
theorem in_any (x : Int) (w : World) : Calls Try.prog 16 #[.int .u8 x] w (TellsBool (inU x) w) := by
  go_enter Try.func16, Try.ntmps16
  go_wp2
  go_loop [3] (fun i' => ∃ k : Nat, k ≤ 65 ∧ i' = .int .i64 k ∧ Hid (∀ t, t < k → (ht : t < U.size) → ((U[t]'ht).toNat : Int) ≠ x)) (fun i' => 65 - (intOf i').toNat)
  case atStart => exact ⟨0, by omega, rfl, hid (fun t h => by omega)⟩
  case round =>
    obtain ⟨k, hk, rfl, hr⟩ := hrel
    by_cases hlk : k < 65
    · have h3 : (k : Int) < 65 := by omega
      have hU : k < U.size := hlk
      go_wp2
      · rename (_ == x) = true => he
        have he' : ((U[k]'hU).toNat : Int) = x := eq_of_beq he
        clear he
        go_ret
        exact ⟨by rw [inU_true hU he']; rfl, rfl⟩
      · rename (_ == x) = false => he
        have he' : ((U[k]'hU).toNat : Int) ≠ x := fun h => by
          have h2 : (((U[k]'hU).toNat : Int) == x) = false := he
          rw [h] at h2
          simp at h2
        clear he
        go_round
        case rel =>
          refine ⟨k + 1, by omega, by go_num, hid fun t h1 h2 => ?_⟩
          by_cases e : t = k
          · subst e; exact he'
          · exact hr.out t (by omega) h2
        case measure => simp [intOf]; omega
    · go_wp2
      go_ret
      exact ⟨by rw [inU_false (fun t ht => hr.out t (by rw [U_size] at ht; omega) ht)]; rfl, rfl⟩

/-- ValidName's own set of characters. -/
def okc (x : Int) : Bool := decide (97 ≤ x) && decide (x ≤ 122) || decide (65 ≤ x) && decide (x ≤ 90) || decide (48 ≤ x) && decide (x ≤ 57) || x == 46 || x == 45 || x == 95

theorem same_set : ∀ n : Fin 256, inU ((n : Nat) : Int) = okc ((n : Nat) : Int) := by decide +kernel

theorem same_byte (u : UInt8) : inU (u.toNat : Int) = okc (u.toNat : Int) := same_set ⟨u.toNat, u.toNat_lt⟩
end Go.Proofs.Qxb6618092a
