/-
  SEAT b6617257a: isSpace (21), jsonSpace (10), skipSpace (18) and its outer name (9), opensDelimited (17), afterValue (22).
-/
import Derived.Test.Qxb6617257aProg
import Derived.Test.Qxb6617257aBase
import Derived.Test.Qxb6617257aZz
namespace Go.Proofs.Qxb6617257a
open Go.RowKit Go.Deep

/-- A space of JSON. -/
def isSp (x : Int) : Bool := x == 32 || x == 9 || x == 10 || x == 13

set_option maxHeartbeats 1000000 in
theorem isSpace_any (x : Int) (w : World) : Calls Try.prog 21 #[.int .u8 x] w (TellsBool (isSp x) w) := by
  unfold isSp
  cases h1 : x == 32
  · cases h2 : x == 9
    · cases h3 : x == 10
      · cases h4 : x == 13
        · go_enter Try.func21, Try.ntmps21
          go_wp2
          go_ret
          exact ⟨rfl, rfl⟩
        · go_enter Try.func21, Try.ntmps21
          go_wp2
          go_ret
          exact ⟨rfl, rfl⟩
      · go_enter Try.func21, Try.ntmps21
        go_wp2
        go_ret
        exact ⟨rfl, rfl⟩
    · go_enter Try.func21, Try.ntmps21
      go_wp2
      go_ret
      exact ⟨rfl, rfl⟩
  · go_enter Try.func21, Try.ntmps21
    go_wp2
    go_ret
    exact ⟨rfl, rfl⟩

set_option maxHeartbeats 1000000 in
theorem jsonSpace_any (x : Int) (w : World) : Calls Try.prog 10 #[.int .u8 x] w (TellsBool (isSp x) w) := by
  unfold isSp
  cases h1 : x == 32
  · cases h2 : x == 9
    · cases h3 : x == 10
      · cases h4 : x == 13
        · go_enter Try.func10, Try.ntmps10
          go_wp2
          go_ret
          exact ⟨rfl, rfl⟩
        · go_enter Try.func10, Try.ntmps10
          go_wp2
          go_ret
          exact ⟨rfl, rfl⟩
      · go_enter Try.func10, Try.ntmps10
        go_wp2
        go_ret
        exact ⟨rfl, rfl⟩
    · go_enter Try.func10, Try.ntmps10
      go_wp2
      go_ret
      exact ⟨rfl, rfl⟩
  · go_enter Try.func10, Try.ntmps10
    go_wp2
    go_ret
    exact ⟨rfl, rfl⟩

/-- A value that has an end of its own: a string, an object, an array. -/
def opens (x : Int) : Bool := x == 34 || x == 123 || x == 91

set_option maxHeartbeats 1000000 in
theorem opens_any (x : Int) (w : World) : Calls Try.prog 17 #[.int .u8 x] w (TellsBool (opens x) w) := by
  unfold opens
  cases h1 : x == 34
  · cases h2 : x == 123
    · cases h3 : x == 91
      · go_enter Try.func17, Try.ntmps17
        go_wp2
        go_ret
        exact ⟨rfl, rfl⟩
      · go_enter Try.func17, Try.ntmps17
        go_wp2
        go_ret
        exact ⟨rfl, rfl⟩
    · go_enter Try.func17, Try.ntmps17
      go_wp2
      go_ret
      exact ⟨rfl, rfl⟩
  · go_enter Try.func17, Try.ntmps17
    go_wp2
    go_ret
    exact ⟨rfl, rfl⟩

/-- What ends a plain value. -/
def ends (x : Int) : Bool := x == 44 || x == 125 || x == 93 || isSp x

set_option maxHeartbeats 1000000 in
theorem ends_any (x : Int) (w : World) : Calls Try.prog 22 #[.int .u8 x] w (TellsBool (ends x) w) := by
  unfold ends
  cases h1 : x == 44
  · cases h2 : x == 125
    · cases h3 : x == 93
      · go_enter Try.func22, Try.ntmps22
        go_wp2_with fail
        go_at_call 21
        refine (isSpace_any x w).mono ?_
        rintro e w' ⟨rfl, hw⟩
        have hw' := hw.symm; subst hw'; clear hw
        go_wp2
        go_ret
        exact ⟨by simp, rfl⟩
      · go_enter Try.func22, Try.ntmps22
        go_wp2
        go_ret
        exact ⟨rfl, rfl⟩
    · go_enter Try.func22, Try.ntmps22
      go_wp2
      go_ret
      exact ⟨rfl, rfl⟩
  · go_enter Try.func22, Try.ntmps22
    go_wp2
    go_ret
    exact ⟨rfl, rfl⟩

/-- From i to r stand spaces, and none at r. -/
def Skips (zs : List Int) (i r : Nat) : Prop := i ≤ r ∧ r ≤ zs.length ∧ (∀ k, i ≤ k → k < r → isSp (zs.getD k 0) = true) ∧ (r < zs.length → isSp (zs.getD r 0) = false)

theorem Skips.only {zs : List Int} {i r s : Nat} (h : Skips zs i r) (k : Skips zs i s) : r = s := by
  obtain ⟨a1, a2, a3, a4⟩ := h
  obtain ⟨b1, b2, b3, b4⟩ := k
  rcases Nat.lt_trichotomy r s with h | h | h
  · have e1 := b3 r a1 h
    rw [a4 (by omega)] at e1
    cases e1
  · exact h
  · have e1 := a3 s b1 h
    rw [b4 (by omega)] at e1
    cases e1

/-- It hands back the first place that is no space. -/
def SkipsTo (zs : List Int) (i : Nat) (w : World) (e : Ending) (w' : World) : Prop := ∃ r : Nat, e = .returned (.int .i64 r) ∧ w' = w ∧ Skips zs i r

set_option maxHeartbeats 1000000 in
theorem skipSpace_any (o : Option Addr) (c : Nat) (zs : List Int) (i : Nat) (w : World) (h : BytesAt w o zs) (hm : zs.length ≤ 1048576000) (hi : i ≤ zs.length) :
    Calls Try.prog 18 #[.slice o zs.length c, .int .i64 i] w (SkipsTo zs i w) := by
  have H := hid h
  clear h
  go_enter Try.func18, Try.ntmps18
  go_wp2
  go_loop [1] (fun i' => ∃ k : Nat, i ≤ k ∧ k ≤ zs.length ∧ i' = .int .i64 k ∧ Hid (∀ t, i ≤ t → t < k → isSp (zs.getD t 0) = true)) (fun i' => zs.length - (intOf i').toNat)
  case atStart => exact ⟨i, Nat.le_refl _, hi, rfl, hid (fun t h1 h2 => by omega)⟩
  case round =>
    obtain ⟨k, hik, hk, rfl, hr⟩ := hrel
    by_cases hlk : k < zs.length
    · rcases H.out with h0 | ⟨b, off, ho, hc⟩
      · simp [h0] at hlk
      subst ho
      obtain ⟨y, hy⟩ : ∃ y, y = zs.getD k 0 := ⟨_, rfl⟩
      have hcell : w.cell? ⟨b, off + k, none⟩ = some (.int .u8 y) := by rw [hy]; exact hc k hlk
      have h3 : (k : Int) < (zs.length : Int) := by omega
      have HY := hid hy
      clear hy hc
      go_wp2_with fail
      go_at_call 21
      refine (isSpace_any y w).mono ?_
      rintro e w' ⟨rfl, hw⟩
      have hw' := hw.symm; subst hw'; clear hw
      cases hsp : isSp y with
      | true =>
        have HS := hid hsp
        clear hsp
        go_wp2
        go_round
        case rel => 
          refine ⟨k + 1, by omega, by omega, by go_num, hid fun t h1 h2 => ?_⟩
          by_cases e : t = k
          · rw [e, ← HY.out]; exact HS.out
          · exact hr.out t h1 (by omega)
        case measure => simp [intOf]; omega
      | false =>
        have HS := hid hsp
        clear hsp
        go_wp2
        go_ret
        exact ⟨k, rfl, rfl, hik, hk, hr.out, fun _ => by rw [← HY.out]; exact HS.out⟩
    · go_wp2
      go_ret
      exact ⟨k, rfl, rfl, hik, hk, hr.out, fun h => absurd h hlk⟩

theorem zzSkipSpace_any (o : Option Addr) (c : Nat) (zs : List Int) (i : Nat) (w : World) (h : BytesAt w o zs) (hm : zs.length ≤ 1048576000) (hi : i ≤ zs.length) :
    Calls Try.prog 9 #[.slice o zs.length c, .int .i64 i] w (SkipsTo zs i w) := by
  go_enter Try.func9, Try.ntmps9
  go_wp2_with fail
  go_at_call 18
  refine (skipSpace_any o c zs i w h hm hi).mono ?_
  rintro e w' ⟨r, rfl, hw, hr⟩
  have hw' := hw.symm; subst hw'; clear hw
  have HR := hid hr
  clear hr
  go_wp2
  go_ret
  exact ⟨r, rfl, rfl, HR.out⟩
end Go.Proofs.Qxb6617257a
