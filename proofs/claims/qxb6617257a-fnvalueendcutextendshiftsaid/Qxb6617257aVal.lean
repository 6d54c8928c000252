/-
  SEAT b6617257a: valueEnd (20) and its outer name (16).
-/
import Derived.Test.Qxb6617257aStr
import Derived.Test.Qxb6617257aSpace
import Derived.Test.Qxb6617257aDepth
namespace Go.Proofs.Qxb6617257a
open Go.RowKit Go.Deep

theorem valEnd_end (zs : List Int) (i : Nat) (h : ¬ i < zs.length) : valEnd zs i = -1 := by
  unfold valEnd
  rw [List.drop_eq_nil_of_le (by omega)]
  rfl

theorem valEnd_str (zs : List Int) (i : Nat) (h : i < zs.length) (hx : zs.getD i 0 = 34) : valEnd zs i = strEnd zs i := by
  unfold valEnd strEnd
  rw [drop_cons zs i h, hx, vr_str, tell_map, if_pos ⟨rfl, h⟩]

theorem valEnd_deep (zs : List Int) (i : Nat) (h : i < zs.length) (hx : zs.getD i 0 = 123 ∨ zs.getD i 0 = 91) : valEnd zs i = tell i (dsc (zs.drop i) 0) := by
  unfold valEnd
  rw [drop_cons zs i h, vr_deep _ _ hx]

theorem valEnd_bare (zs : List Int) (i : Nat) (h : i < zs.length) (hx : ¬ (zs.getD i 0 = 34 ∨ zs.getD i 0 = 123 ∨ zs.getD i 0 = 91)) :
    valEnd zs i = if tw (zs.drop i) = 0 then -1 else ((i + tw (zs.drop i) : Nat) : Int) := by
  unfold valEnd
  rw [drop_cons zs i h, vr_bare _ _ hx]
  split
  · rfl
  · simp [tell]

theorem td_open (zs : List Int) (k d : Nat) (h : k < zs.length) (hx : zs.getD k 0 = 123 ∨ zs.getD k 0 = 91) : tell k (dsc (zs.drop k) d) = tell (k + 1) (dsc (zs.drop (k + 1)) (d + 1)) := by
  rw [drop_cons zs k h, dsc_open _ _ _ hx, tell_map]

theorem td_last (zs : List Int) (k : Nat) (h : k < zs.length) (hx : zs.getD k 0 = 125 ∨ zs.getD k 0 = 93) : tell k (dsc (zs.drop k) 1) = (k : Int) + 1 := by
  rw [drop_cons zs k h, dsc_last _ _ hx]; rfl

theorem td_close (zs : List Int) (k d : Nat) (h : k < zs.length) (hx : zs.getD k 0 = 125 ∨ zs.getD k 0 = 93) : tell k (dsc (zs.drop k) (d + 2)) = tell (k + 1) (dsc (zs.drop (k + 1)) (d + 1)) := by
  rw [drop_cons zs k h, dsc_close _ _ _ hx (by omega), tell_map]; rfl

theorem td_strNone (zs : List Int) (k d : Nat) (h : k < zs.length) (hx : zs.getD k 0 = 34) (hs : sc (zs.drop (k + 1)) = none) : tell k (dsc (zs.drop k) d) = -1 := by
  rw [drop_cons zs k h, hx, dsc_strNone _ _ hs]; rfl

theorem td_strSome (zs : List Int) (k d e : Nat) (h : k < zs.length) (hx : zs.getD k 0 = 34) (hs : sc (zs.drop (k + 1)) = some e) : tell k (dsc (zs.drop k) d) = tell (k + 1 + e) (dsc (zs.drop (k + 1 + e)) d) := by
  rw [drop_cons zs k h, hx, dsc_strSome _ _ _ hs, tell_map, List.drop_drop]
  have : k + (e + 1) = k + 1 + e := by omega
  rw [this]

theorem td_other (zs : List Int) (k d : Nat) (h : k < zs.length) (h1 : ¬ (zs.getD k 0 = 123 ∨ zs.getD k 0 = 91)) (h2 : ¬ (zs.getD k 0 = 125 ∨ zs.getD k 0 = 93)) (h3 : zs.getD k 0 ≠ 34) : tell k (dsc (zs.drop k) d) = tell (k + 1) (dsc (zs.drop (k + 1)) d) := by
  rw [drop_cons zs k h, dsc_other _ _ _ h1 h2 h3, tell_map]

theorem td_end (zs : List Int) (k d : Nat) (h : ¬ k < zs.length) : tell k (dsc (zs.drop k) d) = -1 := by
  rw [List.drop_eq_nil_of_le (by omega), dsc_nil]; rfl

/-- What holds at the head of each round of the scan. -/
def AtDepth (zs : List Int) (i k d : Nat) : Prop := valEnd zs i = tell k (dsc (zs.drop k) d) ∧ (d = 0 → k < zs.length ∧ (zs.getD k 0 = 123 ∨ zs.getD k 0 = 91))

set_option maxHeartbeats 4000000 in
theorem valueEnd_deep (o : Option Addr) (c : Nat) (zs : List Int) (i : Nat) (x : Int) (w : World) (h : BytesAt w o zs) (hm : zs.length ≤ 1048576000) (hi : i < zs.length) (hx : x = zs.getD i 0) (hq : x = 123 ∨ x = 91) :
    Calls Try.prog 20 #[.slice o zs.length c, .int .i64 i] w (TellsInt (valEnd zs i) w) := by
  have hS := stringEnd_any o c zs
  have HS := hid (fun k hk => hS k w h hm hk)
  clear hS
  rcases h with h | ⟨b, off, rfl, hc⟩
  · simp [h] at hi
  have hcell : w.cell? ⟨b, off + i, none⟩ = some (.int .u8 x) := by rw [hx]; exact hc i hi
  have h1 : ((i : Int) == (zs.length : Int)) = false := by simp; omega
  have h2 : (0 : Int) ≤ (i : Int) ∧ (i : Int) < (zs.length : Int) := by omega
  have HV : Hid (AtDepth zs i i 0) := hid ⟨valEnd_deep zs i hi (by rw [← hx]; exact hq), fun _ => ⟨hi, by rw [← hx]; exact hq⟩⟩
  have HC := hid hc
  clear hc hx
  rcases hq with hq | hq
  all_goals
    subst hq
    go_enter Try.func20, Try.ntmps20
    go_wp2
    clear h1 h2 hcell
    go_loop [1, 5] (fun i' d' => ∃ k d : Nat, k ≤ zs.length ∧ d ≤ k ∧ i' = .int .i64 k ∧ d' = .int .i64 d ∧ Hid (AtDepth zs i k d)) (fun i' _ => zs.length - (intOf i').toNat)
    case atStart => exact ⟨i, 0, by omega, by omega, rfl, rfl, HV⟩
    case round =>
      obtain ⟨k, d, hk, hdk, rfl, rfl, hr⟩ := hrel
      by_cases hlk : k < zs.length
      · obtain ⟨y, hy⟩ : ∃ y, y = zs.getD k 0 := ⟨_, rfl⟩
        have hcell : w.cell? ⟨b, off + k, none⟩ = some (.int .u8 y) := by rw [hy]; exact HC.out k hlk
        have h3 : (k : Int) < (zs.length : Int) := by omega
        have HY := hid hy
        clear hy
        by_cases g1 : y = 123
        · subst g1
          go_wp2
          go_round
          case rel => exact ⟨k + 1, d + 1, by omega, by omega, by go_num, by go_num, hid ⟨hr.out.1.trans (td_open zs k d hlk (Or.inl HY.out.symm)), (fun h => by omega)⟩⟩
          case measure => simp [intOf]; omega
        by_cases g2 : y = 91
        · subst g2
          go_wp2
          go_round
          case rel => exact ⟨k + 1, d + 1, by omega, by omega, by go_num, by go_num, hid ⟨hr.out.1.trans (td_open zs k d hlk (Or.inr HY.out.symm)), (fun h => by omega)⟩⟩
          case measure => simp [intOf]; omega
        have f1 : (y == 123) = false := by simpa using g1
        have f2 : (y == 91) = false := by simpa using g2
        have hd0 : d ≠ 0 := by
          intro h0
          have := (hr.out.2 h0).2
          rw [← HY.out] at this
          omega
        by_cases g3 : y = 125
        · subst g3
          obtain ⟨d', rfl⟩ : ∃ d', d = d' + 1 := ⟨d - 1, by omega⟩
          clear hd0 f1 f2 g1 g2
          cases d' with
          | zero =>
            go_wp2
            go_ret
            exact TellsInt.mk (hr.out.1.trans (td_last zs k hlk (Or.inl HY.out.symm)))
          | succ d' =>
            have g5 : ((d' : Int) + 1 == 0) = false := by simp; omega
            go_wp2
            go_round
            case rel => exact ⟨k + 1, d' + 1, by omega, by omega, by go_num, by go_num, hid ⟨hr.out.1.trans (td_close zs k d' hlk (Or.inl HY.out.symm)), (fun h => by omega)⟩⟩
            case measure => simp [intOf]; omega
        by_cases g4 : y = 93
        · subst g4
          obtain ⟨d', rfl⟩ : ∃ d', d = d' + 1 := ⟨d - 1, by omega⟩
          clear hd0 f1 f2 g1 g2
          cases d' with
          | zero =>
            go_wp2
            go_ret
            exact TellsInt.mk (hr.out.1.trans (td_last zs k hlk (Or.inr HY.out.symm)))
          | succ d' =>
            have g5 : ((d' : Int) + 1 == 0) = false := by simp; omega
            go_wp2
            go_round
            case rel => exact ⟨k + 1, d' + 1, by omega, by omega, by go_num, by go_num, hid ⟨hr.out.1.trans (td_close zs k d' hlk (Or.inr HY.out.symm)), (fun h => by omega)⟩⟩
            case measure => simp [intOf]; omega
        have f3 : (y == 125) = false := by simpa using g3
        have f4 : (y == 93) = false := by simpa using g4
        have HD := hid hd0
        clear hd0
        by_cases g5 : y = 34
        · subst g5
          clear f1 f2 f3 f4 g1 g2 g3 g4
          have hse : strEnd zs k = tell (k + 1) (sc (zs.drop (k + 1))) := by unfold strEnd; rw [if_pos ⟨HY.out.symm, hlk⟩]
          have HSE := hid hse
          clear hse
          go_wp2_with fail
          go_at_call 19
          refine (HS.out k (by omega)).mono ?_
          rintro e w' ⟨rfl, hw⟩
          have hw' := hw.symm; subst hw'; clear hw
          rw [HSE.out]
          cases hs : sc (zs.drop (k + 1)) with
          | none =>
            have hv := hr.out.1.trans (td_strNone zs k d hlk HY.out.symm hs)
            have HVV := hid hv
            clear hv hs
            rw [show tell (k + 1) none = -1 from rfl]
            go_wp2
            go_ret
            exact TellsInt.mk HVV.out
          | some e1 =>
            have hv := hr.out.1.trans (td_strSome zs k d e1 hlk HY.out.symm hs)
            have hb := sc_le hs
            rw [List.length_drop] at hb
            obtain ⟨n, hn⟩ : ∃ n, n = k + 1 + e1 := ⟨_, rfl⟩
            rw [show tell (k + 1) (some e1) = (n : Int) by rw [hn]; simp [tell]]
            rw [← hn] at hv
            have hn1 : k + 2 ≤ n := by omega
            have hn2 : n ≤ zs.length := by omega
            have HVV := hid hv
            clear hv hs hb hn
            go_wp2
            go_round
            case rel => exact ⟨n, d, by omega, by omega, by go_num, by go_num, hid ⟨HVV.out, fun h => absurd h HD.out⟩⟩
            case measure => simp [intOf]; omega
        · have f5 : (y == 34) = false := by simpa using g5
          have HO : Hid (¬ (y = 123 ∨ y = 91) ∧ ¬ (y = 125 ∨ y = 93) ∧ y ≠ 34) := hid ⟨by omega, by omega, g5⟩
          clear g1 g2 g3 g4 g5
          go_wp2
          go_round
          case rel =>
            refine ⟨k + 1, d, by omega, by omega, by go_num, by go_num, hid ⟨hr.out.1.trans (td_other zs k d hlk ?_ ?_ ?_), fun h => absurd h HD.out⟩⟩
            · rw [← HY.out]; exact HO.out.1
            · rw [← HY.out]; exact HO.out.2.1
            · rw [← HY.out]; exact HO.out.2.2
          case measure => simp [intOf]; omega
      · go_wp2
        go_ret
        exact TellsInt.mk (hr.out.1.trans (td_end zs k d hlk))

theorem tw_ends (zs : List Int) (k : Nat) (h : k < zs.length) (hx : ends (zs.getD k 0) = true) : tw (zs.drop k) = 0 := by
  rw [drop_cons zs k h, tw, if_pos hx]

theorem tw_goes (zs : List Int) (k : Nat) (h : k < zs.length) (hx : ends (zs.getD k 0) = false) : tw (zs.drop k) = tw (zs.drop (k + 1)) + 1 := by
  rw [drop_cons zs k h, tw, if_neg (by rw [hx]; decide)]

theorem tw_end (zs : List Int) (k : Nat) (h : ¬ k < zs.length) : tw (zs.drop k) = 0 := by
  rw [List.drop_eq_nil_of_le (by omega)]; rfl

set_option maxHeartbeats 4000000 in
theorem valueEnd_bare (o : Option Addr) (c : Nat) (zs : List Int) (i : Nat) (x : Int) (w : World) (h : BytesAt w o zs) (hm : zs.length ≤ 1048576000) (hi : i < zs.length) (hx : x = zs.getD i 0) (hq : ¬ (x = 34 ∨ x = 123 ∨ x = 91)) :
    Calls Try.prog 20 #[.slice o zs.length c, .int .i64 i] w (TellsInt (valEnd zs i) w) := by
  rcases h with h | ⟨b, off, rfl, hc⟩
  · simp [h] at hi
  have hcell : w.cell? ⟨b, off + i, none⟩ = some (.int .u8 x) := by rw [hx]; exact hc i hi
  have h1 : ((i : Int) == (zs.length : Int)) = false := by simp; omega
  have h2 : (0 : Int) ≤ (i : Int) ∧ (i : Int) < (zs.length : Int) := by omega
  have HV := hid (valEnd_bare zs i hi (by rw [← hx]; exact hq))
  have HC := hid hc
  have q1 : (x == 34) = false := by simp; omega
  have q2 : (x == 123) = false := by simp; omega
  have q3 : (x == 91) = false := by simp; omega
  clear hc hx hq
  go_enter Try.func20, Try.ntmps20
  go_wp2
  clear h1 h2 hcell
  go_loop [6] (fun i' => ∃ k : Nat, i ≤ k ∧ k ≤ zs.length ∧ i' = .int .i64 k ∧ Hid (i + tw (zs.drop i) = k + tw (zs.drop k))) (fun i' => zs.length - (intOf i').toNat)
  case atStart => exact ⟨i, by omega, by omega, rfl, hid rfl⟩
  case round =>
    obtain ⟨k, hik, hk, rfl, hr⟩ := hrel
    have fin : ∀ _ : tw (zs.drop k) = 0, valEnd zs i = if k = i then -1 else (k : Int) := fun h0 => by
      have h9 := hr.out
      rw [HV.out]
      by_cases e : k = i
      · rw [if_pos (by omega), if_pos e]
      · rw [if_neg (by omega), if_neg e]; congr 1; omega
    have FIN := hid fin
    clear fin
    by_cases hlk : k < zs.length
    · obtain ⟨y, hy⟩ : ∃ y, y = zs.getD k 0 := ⟨_, rfl⟩
      have hcell : w.cell? ⟨b, off + k, none⟩ = some (.int .u8 y) := by rw [hy]; exact HC.out k hlk
      have h3 : (k : Int) < (zs.length : Int) := by omega
      have HY := hid hy
      clear hy
      go_wp2_with fail
      go_at_call 22
      refine (ends_any y w).mono ?_
      rintro e w' ⟨rfl, hw⟩
      have hw' := hw.symm; subst hw'; clear hw
      cases hs : ends y with
      | false =>
        have HS := hid hs
        clear hs
        go_wp2
        go_round
        case rel =>
          refine ⟨k + 1, by omega, by omega, by go_num, hid ?_⟩
          have := tw_goes zs k hlk (by rw [← HY.out]; exact HS.out)
          have := hr.out
          omega
        case measure => simp [intOf]; omega
      | true =>
        have HS := hid (tw_ends zs k hlk (by rw [← HY.out]; exact hs))
        clear hs
        by_cases e : k = i
        · have hv : valEnd zs i = -1 := by rw [FIN.out HS.out, if_pos e]
          have HVV := hid hv
          clear hv
          have e1 : ((k : Int) == (i : Int)) = true := beq_iff_eq.2 (by omega)
          clear e
          go_wp2
          go_ret
          exact TellsInt.mk HVV.out
        · have hv : valEnd zs i = (k : Int) := by rw [FIN.out HS.out, if_neg e]
          have HVV := hid hv
          clear hv
          have e1 : ((k : Int) == (i : Int)) = false := by simp; omega
          go_wp2
          go_ret
          exact TellsInt.mk HVV.out
    · have HS := hid (tw_end zs k hlk)
      have hke : k ≠ i := by omega
      have hv : valEnd zs i = (k : Int) := by rw [FIN.out HS.out, if_neg hke]
      have HVV := hid hv
      clear hv
      have e1 : ((k : Int) == (i : Int)) = false := by simp; omega
      go_wp2
      go_ret
      exact TellsInt.mk HVV.out

set_option maxHeartbeats 1000000 in
theorem valueEnd_any (o : Option Addr) (c : Nat) (zs : List Int) (i : Nat) (w : World) (h : BytesAt w o zs) (hm : zs.length ≤ 1048576000) (hi : i ≤ zs.length) :
    Calls Try.prog 20 #[.slice o zs.length c, .int .i64 i] w (TellsInt (valEnd zs i) w) := by
  by_cases he : i < zs.length
  · by_cases h1 : zs.getD i 0 = 34
    · rw [valEnd_str zs i he h1]
      have HS := hid (stringEnd_any o c zs i w h hm hi)
      rcases h with h | ⟨b, off, rfl, hc⟩
      · simp [h] at he
      have hcell : w.cell? ⟨b, off + i, none⟩ = some (.int .u8 34) := by rw [hc i he, h1]
      have h3 : ((i : Int) == (zs.length : Int)) = false := by simp; omega
      have h2 : (0 : Int) ≤ (i : Int) ∧ (i : Int) < (zs.length : Int) := by omega
      clear hc h1
      go_enter Try.func20, Try.ntmps20
      go_wp2_with fail
      go_at_call 19
      refine HS.out.mono ?_
      rintro e w' ⟨rfl, hw⟩
      have hw' := hw.symm; subst hw'; clear hw
      go_wp2
      go_ret
      exact ⟨rfl, rfl⟩
    · by_cases h2 : zs.getD i 0 = 123 ∨ zs.getD i 0 = 91
      · exact valueEnd_deep o c zs i _ w h hm he rfl h2
      · exact valueEnd_bare o c zs i _ w h hm he rfl (by omega)
  · rw [valEnd_end zs i he]
    have h1 : ((i : Int) == (zs.length : Int)) = true := beq_iff_eq.2 (by omega)
    clear h he hi
    go_enter Try.func20, Try.ntmps20
    go_wp2
    go_ret
    exact ⟨rfl, rfl⟩

theorem zzValueEnd_any (o : Option Addr) (c : Nat) (zs : List Int) (i : Nat) (w : World) (h : BytesAt w o zs) (hm : zs.length ≤ 1048576000) (hi : i ≤ zs.length) :
    Calls Try.prog 16 #[.slice o zs.length c, .int .i64 i] w (TellsInt (valEnd zs i) w) := by
  go_enter Try.func16, Try.ntmps16
  go_wp2_with fail
  go_at_call 20
  refine (valueEnd_any o c zs i w h hm hi).mono ?_
  rintro e w' ⟨rfl, hw⟩
  have hw' := hw.symm; subst hw'; clear hw
  go_wp2
  go_ret
  exact ⟨rfl, rfl⟩
end Go.Proofs.Qxb6617257a
