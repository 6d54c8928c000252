/-
  SEAT b6618092a: ValidName (12).
-/
import Derived.Test.Qxb6618092aIn
namespace Go.Proofs.Qxb6618092a
open Go.RowKit

/-- The byte at k, as a number. -/
def byteAt (s : ByteArray) (k : Nat) : Int := ((s.data.toList.getD k 0).toNat : Int)

theorem at_eq (s : ByteArray) (k : Nat) (h : k < s.size) : ((s[k]'h).toNat : Int) = byteAt s k := by
  unfold byteAt
  have h' : k < s.data.toList.length := by simpa using h
  rw [List.getD, List.getElem?_eq_getElem h']
  simp
  rfl

/-- 's[k]', for the walk to take. -/
theorem idx (s : ByteArray) (k : Nat) (y : Int) (hk : k < s.size) (hy : y = byteAt s k) (w : World) :
    (Instr.index 9 (.string s) (.int .i64 (k : Int))).run Try.prog w = .ok (.int .u8 y) w := by
  rw [run_index_string w 9 s .i64 _ Try.underlying9, dif_pos ⟨by omega, by omega⟩, hy, ← at_eq s k hk]
  simp

theorem okc_iff (y : Int) : okc y = true ↔ (97 ≤ y ∧ y ≤ 122) ∨ (65 ≤ y ∧ y ≤ 90) ∨ (48 ≤ y ∧ y ≤ 57) ∨ y = 46 ∨ y = 45 ∨ y = 95 := by
  simp [okc, or_assoc]

/-- It answers whether so, and nothing is turned. -/
def TellsIff (P : Prop) (w : World) (e : Ending) (w' : World) : Prop := ∃ b, e = .returned (.bool b) ∧ w' = w ∧ (b = true ↔ P)

/-- What ValidName asks. -/
def VN (s : ByteArray) : Prop := s.size ≠ 0 ∧ s.size ≤ 128 ∧ s.toList ≠ [46] ∧ s.toList ≠ [46, 46] ∧ ∀ k, k < s.size → okc (byteAt s k) = true

theorem TellsIff.no {P : Prop} {w : World} (h : ¬ P) : TellsIff P w (.returned (.bool false)) w := ⟨false, rfl, rfl, (fun h => by cases h), fun h' => absurd h' h⟩
theorem TellsIff.yes {P : Prop} {w : World} (h : P) : TellsIff P w (.returned (.bool true)) w := ⟨true, rfl, rfl, fun _ => h, fun _ => rfl⟩

set_option maxHeartbeats 4000000 in
theorem valid_any (s : ByteArray) (w : World) (hm : s.size ≤ 1048576) : Calls Try.prog 12 #[.string s] w (TellsIff (VN s) w) := by
  by_cases h1 : s.size = 0
  · have HN := hid (show ¬ VN s from fun h => h.1 h1)
    have q1 : ((s.size : Int) == 0) = true := beq_iff_eq.2 (by omega)
    clear h1
    go_enter Try.func12, Try.ntmps12
    go_wp2
    go_ret
    exact TellsIff.no HN.out
  have q1 : ((s.size : Int) == 0) = false := beq_eq_false_iff_ne.2 (by omega)
  by_cases h2 : 128 < s.size
  · have HN := hid (show ¬ VN s from fun h => absurd h.2.1 (by omega))
    have q2 : (128 : Int) < (s.size : Int) := by omega
    clear h1 h2
    go_enter Try.func12, Try.ntmps12
    go_wp2
    go_ret
    exact TellsIff.no HN.out
  have h2 : s.size ≤ 128 := by omega
  have q2 : (s.size : Int) ≤ 128 := by omega
  cases q3 : s.toList == [46] with
  | true =>
    have HN := hid (show ¬ VN s from fun h => h.2.2.1 (eq_of_beq q3))
    clear h1 h2
    go_enter Try.func12, Try.ntmps12
    go_wp2
    go_ret
    exact TellsIff.no HN.out
  | false =>
  cases q4 : s.toList == [46, 46] with
  | true =>
    have HN := hid (show ¬ VN s from fun h => h.2.2.2.1 (eq_of_beq q4))
    clear h1 h2
    go_enter Try.func12, Try.ntmps12
    go_wp2
    go_ret
    exact TellsIff.no HN.out
  | false =>
  have HV : Hid ((∀ k, k < s.size → okc (byteAt s k) = true) → VN s) := hid fun h => ⟨h1, h2, (fun e => by rw [e] at q3; cases q3), (fun e => by rw [e] at q4; cases q4), h⟩
  clear h1
  go_enter Try.func12, Try.ntmps12
  go_wp2
  clear q1 q2 q3 q4
  go_loop [3] (fun i' => ∃ k : Nat, k ≤ s.size ∧ i' = .int .i64 k ∧ Hid (∀ t, t < k → okc (byteAt s t) = true)) (fun i' => s.size - (intOf i').toNat)
  case atStart => exact ⟨0, by omega, rfl, hid (fun t h => by omega)⟩
  case round =>
    obtain ⟨k, hk, rfl, hr⟩ := hrel
    by_cases hlk : k < s.size
    · obtain ⟨y, hy⟩ : ∃ y, y = byteAt s k := ⟨_, rfl⟩
      have hidx := idx s k y hlk hy
      have h3 : (k : Int) < (s.size : Int) := by omega
      have HN : Hid (okc y = false → ¬ VN s) := hid fun h1 h2 => by
        have := h2.2.2.2.2 k hlk
        rw [← hy, h1] at this
        cases this
      have HR : Hid (okc y = true → ∀ t, t < k + 1 → okc (byteAt s t) = true) := hid fun h1 t ht => by
        by_cases e : t = k
        · rw [e, ← hy]; exact h1
        · exact hr.out t (by omega)
      clear hy hr
      cases hok : okc y with
      | true =>
        have HO := hid hok
        have hi := (okc_iff y).1 hok
        clear hok
        rcases hi with hi | hi | hi | hi | hi | hi
        · obtain ⟨i1, i2⟩ := hi
          go_wp2
          all_goals
            go_round
            case rel => exact ⟨k + 1, by omega, by go_num, hid (HR.out HO.out)⟩
            case measure => simp [intOf]; omega
        · obtain ⟨i1, i2⟩ := hi
          go_wp2
          all_goals
            go_round
            case rel => exact ⟨k + 1, by omega, by go_num, hid (HR.out HO.out)⟩
            case measure => simp [intOf]; omega
        · obtain ⟨i1, i2⟩ := hi
          go_wp2
          all_goals
            go_round
            case rel => exact ⟨k + 1, by omega, by go_num, hid (HR.out HO.out)⟩
            case measure => simp [intOf]; omega
        all_goals
          subst hi
          go_wp2
          go_round
          case rel => exact ⟨k + 1, by omega, by go_num, hid (HR.out HO.out)⟩
          case measure => simp [intOf]; omega
      | false =>
        have HO := hid hok
        have hi : ¬ _ := fun h => absurd ((okc_iff y).2 h) (by rw [hok]; decide)
        clear hok
        have j4 : (y != 46) = true := by simp; omega
        have j5 : (y != 45) = true := by simp; omega
        have j6 : (y != 95) = true := by simp; omega
        have HI := hid hi
        clear hi
        go_wp2
        all_goals first
          | (go_ret; exact TellsIff.no (HN.out HO.out))
          | (exfalso; have := HI.out; omega)
          | (exfalso; clear HV HN HR HI HO; rename _ ∨ _ => hz; simp at hz; omega)
          | (exfalso; clear HV HN HR HI HO; rename (!_) = false => hz; simp at hz; omega)
    · go_wp2
      go_ret
      exact TellsIff.yes (HV.out fun t ht => hr.out t (by omega))
end Go.Proofs.Qxb6618092a

