/-
  SEAT b6618092a: b1NameModel (13), the bound (11), FnValidNameMatchesUnreservedSegment (5).
-/
import Derived.Test.Qxb6618092aName
namespace Go.Proofs.Qxb6618092a
open Go.RowKit

/-- What the law's own model asks. -/
def NM (s : ByteArray) : Prop := s.size ≠ 0 ∧ s.size ≤ 128 ∧ (∀ k, k < s.size → inU (byteAt s k) = true) ∧ ¬ ((∀ k, k < s.size → byteAt s k = 46) ∧ s.size ≤ 2)

theorem byte_dot {u : UInt8} (h : (u.toNat : Int) = 46) : u = 46 := by
  apply UInt8.toNat_inj.1
  have : (46 : UInt8).toNat = 46 := rfl
  omega

theorem vn_nm (s : ByteArray) : VN s ↔ NM s := by
  obtain ⟨⟨l⟩⟩ := s
  have hs : (ByteArray.mk ⟨l⟩).size = l.length := rfl
  have ht : (ByteArray.mk ⟨l⟩).toList = l := ByteArray.toList_eq _
  have hb : ∀ k, byteAt (ByteArray.mk ⟨l⟩) k = ((l.getD k 0).toNat : Int) := fun k => rfl
  have hc : (∀ k, k < l.length → okc (byteAt (ByteArray.mk ⟨l⟩) k) = true) ↔ (∀ k, k < l.length → inU (byteAt (ByteArray.mk ⟨l⟩) k) = true) := by
    constructor
    · intro h k hk
      have := h k hk
      rw [hb] at this ⊢
      rw [same_byte]; exact this
    · intro h k hk
      have := h k hk
      rw [hb] at this ⊢
      rw [← same_byte]; exact this
  have hd : (l ≠ [] ) → (((∀ k, k < l.length → byteAt (ByteArray.mk ⟨l⟩) k = 46) ∧ l.length ≤ 2) ↔ (l = [46] ∨ l = [46, 46])) := by
    intro hne
    constructor
    · rintro ⟨h, hl⟩
      match l, hne, h, hl with
      | [a], _, h, _ =>
        have := h 0 (by simp)
        rw [byte_dot (u := a) this]
        exact Or.inl rfl
      | [a, b], _, h, _ =>
        have h0 := h 0 (by simp)
        have h1 := h 1 (by simp)
        rw [byte_dot (u := a) h0, byte_dot (u := b) h1]
        exact Or.inr rfl
      | a :: b :: c :: r, _, _, hl => simp at hl
    · rintro (rfl | rfl)
      · refine ⟨fun k hk => ?_, by simp⟩
        have : k = 0 := by simp at hk; exact hk
        subst this
        rfl
      · refine ⟨fun k hk => ?_, by simp⟩
        simp at hk
        have : k = 0 ∨ k = 1 := by omega
        rcases this with rfl | rfl <;> rfl
  unfold VN NM
  rw [hs, ht]
  constructor
  · rintro ⟨h1, h2, h3, h4, h5⟩
    have hne : l ≠ [] := fun e => h1 (by rw [e]; rfl)
    refine ⟨h1, h2, hc.1 h5, fun h => ?_⟩
    rcases (hd hne).1 h with e | e
    · exact h3 e
    · exact h4 e
  · rintro ⟨h1, h2, h3, h4⟩
    have hne : l ≠ [] := fun e => h1 (by rw [e]; rfl)
    exact ⟨h1, h2, fun e => h4 ((hd hne).2 (Or.inl e)), fun e => h4 ((hd hne).2 (Or.inr e)), hc.2 h3⟩

set_option maxHeartbeats 4000000 in
theorem model_any (s : ByteArray) (w : World) (hm : s.size ≤ 1048576) : Calls Try.prog 13 #[.string s] w (TellsIff (NM s) w) := by
  by_cases h1 : s.size = 0
  · have HN := hid (show ¬ NM s from fun h => h.1 h1)
    have q1 : ((s.size : Int) == 0) = true := beq_iff_eq.2 (by omega)
    clear h1
    go_enter Try.func13, Try.ntmps13
    go_wp2
    go_ret
    exact TellsIff.no HN.out
  have q1 : ((s.size : Int) == 0) = false := beq_eq_false_iff_ne.2 (by omega)
  by_cases h2 : 128 < s.size
  · have HN := hid (show ¬ NM s from fun h => absurd h.2.1 (by omega))
    have q2 : (128 : Int) < (s.size : Int) := by omega
    clear h1 h2
    go_enter Try.func13, Try.ntmps13
    go_wp2
    go_ret
    exact TellsIff.no HN.out
  have h2 : s.size ≤ 128 := by omega
  have q2 : (s.size : Int) ≤ 128 := by omega
  have HV : Hid ((∀ k, k < s.size → inU (byteAt s k) = true) → ¬ ((∀ k, k < s.size → byteAt s k = 46) ∧ s.size ≤ 2) → NM s) := hid fun h h' => ⟨h1, h2, h, h'⟩
  clear h1
  go_enter Try.func13, Try.ntmps13
  go_wp2
  clear q1 q2
  go_loop [3, 4] (fun d' i' => ∃ (k : Nat) (b : Bool), k ≤ s.size ∧ i' = .int .i64 k ∧ d' = .bool b ∧ Hid ((∀ t, t < k → inU (byteAt s t) = true) ∧ (b = true ↔ ∀ t, t < k → byteAt s t = 46))) (fun _ i' => s.size - (intOf i').toNat)
  case atStart => exact ⟨0, true, by omega, rfl, rfl, hid ⟨fun t h => by omega, ⟨fun _ t h => by omega, fun _ => rfl⟩⟩⟩
  case round =>
    obtain ⟨k, b, hk, rfl, rfl, hr⟩ := hrel
    by_cases hlk : k < s.size
    · obtain ⟨y, hy⟩ : ∃ y, y = byteAt s k := ⟨_, rfl⟩
      have hidx := idx s k y hlk hy
      have h3 : (k : Int) < (s.size : Int) := by omega
      have HN : Hid (inU y = false → ¬ NM s) := hid fun h1 h2 => by
        have := h2.2.2.1 k hlk
        rw [← hy, h1] at this
        cases this
      have HR : Hid (inU y = true → ∀ t, t < k + 1 → inU (byteAt s t) = true) := hid fun h1 t ht => by
        by_cases e : t = k
        · rw [e, ← hy]; exact h1
        · exact hr.out.1 t (by omega)
      have HY := hid hy
      clear hy
      go_wp2_with fail
      go_at_call 16
      refine (in_any y w).mono ?_
      rintro e w' ⟨rfl, hw⟩
      have hw' := hw.symm; subst hw'; clear hw
      cases hin : inU y with
      | false =>
        have HO := hid hin
        clear hin
        go_wp2
        go_ret
        exact TellsIff.no (HN.out HO.out)
      | true =>
        have HO := hid hin
        clear hin
        by_cases hd : y = 46
        · have q5 : (y != 46) = false := by simpa using hd
          have HD := hid hd
          clear hd
          go_wp2
          go_round
          case rel =>
            refine ⟨k + 1, b, by omega, by go_num, rfl, hid ⟨HR.out HO.out, ⟨fun h t ht => ?_, fun h => ?_⟩⟩⟩
            · by_cases e : t = k
              · rw [e, ← HY.out]; exact HD.out
              · exact hr.out.2.1 h t (by omega)
            · exact hr.out.2.2 fun t ht => h t (by omega)
          case measure => simp [intOf]; omega
        · have q5 : (y != 46) = true := by simpa using hd
          have HD := hid hd
          clear hd
          go_wp2
          go_round
          case rel =>
            refine ⟨k + 1, false, by omega, by go_num, rfl, hid ⟨HR.out HO.out, ⟨(fun h => by cases h), fun h => ?_⟩⟩⟩
            exact absurd (HY.out.trans (h k (by omega))) HD.out
          case measure => simp [intOf]; omega
    · have hall : ∀ t, t < s.size → inU (byteAt s t) = true := fun t ht => hr.out.1 t (by omega)
      have hdot : b = true ↔ ∀ t, t < s.size → byteAt s t = 46 := by
        have : k = s.size := by omega
        rw [← this]
        exact hr.out.2
      have HA := hid (And.intro hall hdot)
      clear hall hdot hr
      cases b with
      | false =>
        have HN : Hid (NM s) := hid (HV.out HA.out.1 fun h => by have := HA.out.2.2 h.1; cases this)
        go_wp2
        go_ret
        exact TellsIff.yes HN.out
      | true =>
        by_cases h5 : s.size ≤ 2
        · have HN : Hid (¬ NM s) := hid fun h => h.2.2.2 ⟨HA.out.2.1 rfl, h5⟩
          have q6 : (s.size : Int) ≤ 2 := by omega
          go_wp2
          go_ret
          exact TellsIff.no HN.out
        · have HN : Hid (NM s) := hid (HV.out HA.out.1 fun h => h5 h.2)
          have q6 : (2 : Int) < (s.size : Int) := by omega
          clear h5
          go_wp2
          go_ret
          exact TellsIff.yes HN.out

set_option maxHeartbeats 1000000 in
theorem zz_any (s : ByteArray) (w : World) (_hm : s.size ≤ 9223372036854775807) : Calls Try.prog 11 #[.string s] w (TellsBool (decide (s.size ≤ 1048576)) w) := by
  by_cases h : s.size ≤ 1048576
  · rw [decide_eq_true h]
    go_enter Try.func11, Try.ntmps11
    go_wp2
    go_ret
    exact ⟨rfl, rfl⟩
  · rw [decide_eq_false h]
    go_enter Try.func11, Try.ntmps11
    go_wp2
    go_ret
    exact ⟨rfl, rfl⟩

set_option maxHeartbeats 1000000 in
theorem law_any (s : ByteArray) (w : World) (hm : s.size ≤ 9223372036854775807) : Calls Try.prog 5 #[.string s] w (TellsBool true w) := by
  by_cases h1 : s.size ≤ 1048576
  · by_cases h2 : 65536 < s.size
    · go_enter Try.func5, Try.ntmps5
      go_wp2_with fail
      go_at_call 11
      refine (zz_any s w hm).mono ?_
      rintro e w' ⟨rfl, hw⟩
      have hw' := hw.symm; subst hw'; clear hw
      rw [decide_eq_true h1]
      go_wp2
      go_ret
      exact ⟨rfl, rfl⟩
    · have h3 : s.size ≤ 65536 := by omega
      clear h2
      go_enter Try.func5, Try.ntmps5
      go_wp2_with fail
      go_at_call 11
      refine (zz_any s w hm).mono ?_
      rintro e w' ⟨rfl, hw⟩
      have hw' := hw.symm; subst hw'; clear hw
      rw [decide_eq_true h1]
      go_wp2_with fail
      go_at_call 12
      refine (valid_any s w h1).mono ?_
      rintro e w' ⟨b1, rfl, hw, i1⟩
      have hw' := hw.symm; subst hw'; clear hw
      have I1 := hid i1
      clear i1
      go_wp2_with fail
      go_at_call 13
      refine (model_any s w h1).mono ?_
      rintro e w' ⟨b2, rfl, hw, i2⟩
      have hw' := hw.symm; subst hw'; clear hw
      have hbb : b1 = b2 := by
        have h9 := I1.out.trans ((vn_nm s).trans i2.symm)
        cases b1 <;> cases b2 <;> simp at h9 ⊢
      subst hbb
      clear i2 I1
      go_wp2
      go_ret
      exact ⟨by simp, rfl⟩
  · go_enter Try.func5, Try.ntmps5
    go_wp2_with fail
    go_at_call 11
    refine (zz_any s w hm).mono ?_
    rintro e w' ⟨rfl, hw⟩
    have hw' := hw.symm; subst hw'; clear hw
    rw [decide_eq_false h1]
    go_wp2
    go_ret
    exact ⟨rfl, rfl⟩
end Go.Proofs.Qxb6618092a
