import Derived.Test.Qxb6617182aTrans
import Derived.Test.Qxb6617182aZz6
import Derived.Test.Qxb6617182aLaw4
namespace Go.Proofs.Qxb6617182a
open Go.RowKit Go.Deep

theorem get15 (s : St) (o : Option Addr) (n c : Nat) (w : World) (h : LL w s) (e : s.va = .slice o n c) : Calls Try.prog 15 #[.pointer (some ⟨s.lb, 0, none⟩)] w fun e w' => e = .returned (.slice o n c) ∧ w' = w := by
  have hc : w.cell? ⟨s.lb, 0, none⟩ = some (.slice o n c) := by rw [← e]; exact h.cell rfl
  clear h e
  go_enter Try.func15, Try.ntmps15
  go_wp2
  go_ret
  exact ⟨rfl, rfl⟩

theorem get17 (s : St) (o : Option Addr) (n c : Nat) (w : World) (h : LL w s) (e : s.vp = .slice o n c) : Calls Try.prog 17 #[.pointer (some ⟨s.lb, 0, none⟩)] w fun e w' => e = .returned (.slice o n c) ∧ w' = w := by
  have hc : w.cell? ⟨s.lb, 2, none⟩ = some (.slice o n c) := by rw [← e]; exact h.cell rfl
  clear h e
  go_enter Try.func17, Try.ntmps17
  go_wp2
  go_ret
  exact ⟨rfl, rfl⟩

theorem get19 (s : St) (o : Option Addr) (n c : Nat) (w : World) (h : LL w s) (e : s.vg = .slice o n c) : Calls Try.prog 19 #[.pointer (some ⟨s.lb, 0, none⟩)] w fun e w' => e = .returned (.slice o n c) ∧ w' = w := by
  have hc : w.cell? ⟨s.lb, 1, none⟩ = some (.slice o n c) := by rw [← e]; exact h.cell rfl
  clear h e
  go_enter Try.func19, Try.ntmps19
  go_wp2
  go_ret
  exact ⟨rfl, rfl⟩

theorem get20 (s : St) (w : World) (h : LL w s) : Calls Try.prog 20 #[.pointer (some ⟨s.lb, 0, none⟩)] w fun e w' => e = .returned (.slice (some ⟨s.gl, 0, none⟩) s.n s.n) ∧ w' = w := by
  have hc : w.cell? ⟨s.lb, 3, none⟩ = some (.slice (some ⟨s.gl, 0, none⟩) s.n s.n) := h.cell rfl
  clear h
  go_enter Try.func20, Try.ntmps20
  go_wp2
  go_ret
  exact ⟨rfl, rfl⟩

theorem get21 (s : St) (w : World) (h : LL w s) : Calls Try.prog 21 #[.pointer (some ⟨s.lb, 0, none⟩)] w fun e w' => e = .returned (.slice s.o4 s.lo.length s.c4) ∧ w' = w := by
  have hc : w.cell? ⟨s.lb, 4, none⟩ = some (.slice s.o4 s.lo.length s.c4) := h.cell rfl
  clear h
  go_enter Try.func21, Try.ntmps21
  go_wp2
  go_ret
  exact ⟨rfl, rfl⟩

theorem get22 (s : St) (w : World) (h : LL w s) : Calls Try.prog 22 #[.pointer (some ⟨s.lb, 0, none⟩)] w fun e w' => e = .returned (.slice s.o5 s.dr.length s.c5) ∧ w' = w := by
  have hc : w.cell? ⟨s.lb, 5, none⟩ = some (.slice s.o5 s.dr.length s.c5) := h.cell rfl
  clear h
  go_enter Try.func22, Try.ntmps22
  go_wp2
  go_ret
  exact ⟨rfl, rfl⟩

theorem get23 (s : St) (w : World) (h : LL w s) : Calls Try.prog 23 #[.pointer (some ⟨s.lb, 0, none⟩)] w fun e w' => e = .returned (.slice s.o8 s.mv.length s.c8) ∧ w' = w := by
  have hc : w.cell? ⟨s.lb, 8, none⟩ = some (.slice s.o8 s.mv.length s.c8) := h.cell rfl
  clear h
  go_enter Try.func23, Try.ntmps23
  go_wp2
  go_ret
  exact ⟨rfl, rfl⟩

theorem get25 (s : St) (w : World) (h : LL w s) : Calls Try.prog 25 #[.pointer (some ⟨s.lb, 0, none⟩)] w fun e w' => e = .returned (.slice (some ⟨s.g0, 0, none⟩) s.n s.n) ∧ w' = w := by
  have hc : w.cell? ⟨s.lb, 6, none⟩ = some (.slice (some ⟨s.g0, 0, none⟩) s.n s.n) := h.cell rfl
  clear h
  go_enter Try.func25, Try.ntmps25
  go_wp2
  go_ret
  exact ⟨rfl, rfl⟩

theorem get26 (s : St) (w : World) (h : LL w s) : Calls Try.prog 26 #[.pointer (some ⟨s.lb, 0, none⟩)] w fun e w' => e = .returned (.slice (some ⟨s.g1, 0, none⟩) s.n s.n) ∧ w' = w := by
  have hc : w.cell? ⟨s.lb, 7, none⟩ = some (.slice (some ⟨s.g1, 0, none⟩) s.n s.n) := h.cell rfl
  clear h
  go_enter Try.func26, Try.ntmps26
  go_wp2
  go_ret
  exact ⟨rfl, rfl⟩

set_option maxHeartbeats 4000000 in
theorem law3 (o1 : Option Addr) (n c1 : Nat) (A1 : Nat → Option Addr) (C1 : Nat → Nat) (Z : Nat → List Int) (o2 : Option Addr) (n2 c2 : Nat) (A2 : Nat → Option Addr) (L2 C2 : Nat → Nat) (Z2 : Nat → List Int) (w : World)
    (h1 : MatAt w o1 n A1 C1 Z) (h2 : PMatP (fun _ => True) w o2 n2 A2 L2 C2 Z2) (m1 : n ≤ maxLen) (m2 : n2 ≤ maxLen) (ml1 : ∀ r, r < n → (Z r).length ≤ maxLen) (ml2 : ∀ r, r < n2 → L2 r ≤ maxLen) :
    Calls Try.prog 3 #[.slice o1 n c1, .slice o2 n2 c2] w fun e w' => e = .returned (.bool true) ∧ Below w.heap.size w w' := by
  have k6 := hid (zz6_any o1 o2 n c1 n2 c2 A1 A2 _ C1 L2 C2 w h1.1 h2.slices m1 m2 ml1 ml2)
  have k7 := hid (size_any o1 o2 none n c1 n2 c2 0 0 A1 A2 _ C1 L2 C2 w h1.1 h2.slices m1 m2 (Nat.zero_le _) ml1 ml2)
  have k8 := hid (range_any o1 n c1 A1 C1 Z w h1 m1 ml1)
  have H1 := hid h1
  have H2 := hid h2
  unfold maxLen at m1
  clear h1 h2 ml1 ml2 m2
  go_enter Try.func3, Try.ntmps3
  go_wp2_with fail
  refine k6.out.mono ?_
  rintro e w' ⟨hw, b0, rfl, _⟩
  have hw' := hw.symm
  subst hw'
  clear hw
  cases b0 with
  | false =>
    go_wp2
    go_ret
    exact ⟨rfl, Below.refl _ _⟩
  | true =>
  go_wp2_with fail
  refine k7.out.mono ?_
  rintro e w' ⟨hw, b0, rfl, hsz⟩
  have hw' := hw.symm
  subst hw'
  clear hw
  cases b0 with
  | false =>
    clear hsz
    go_wp2
    go_ret
    exact ⟨rfl, Below.refl _ _⟩
  | true =>
  have HSZ := hid (hsz rfl)
  clear hsz
  go_wp2_with fail
  refine k8.out.mono ?_
  rintro e w' ⟨hw, b0, rfl, hin⟩
  have hw' := hw.symm
  subst hw'
  clear hw
  cases b0 with
  | false =>
    clear hin
    go_wp2
    go_ret
    exact ⟨rfl, Below.refl _ _⟩
  | true =>
  have HIN := hid (hin rfl)
  clear hin k6 k7 k8
  have hs1 : sumTo (fun r => (Z r).length) n ≤ 131072 := by have := HSZ.out; omega
  have hs2 : sumTo L2 n2 ≤ 131072 := by have := HSZ.out; omega
  have hn1 : n ≤ 131072 := by have := HSZ.out; omega
  have hn2 : n2 ≤ 131072 := by have := HSZ.out; omega
  have HL1 := hid (show ∀ r, r < n → (Z r).length ≤ 1048576 from fun r hr => by have := sumTo_ge (fun r => (Z r).length) hr; omega)
  have HL2 := hid (show ∀ r, r < n2 → L2 r ≤ 1048576 from fun r hr => by have := sumTo_ge L2 hr; omega)
  have HS1 := hid hs1
  clear hs1 hs2 HSZ
  go_wp2_with fail
  refine (copyNext_any o1 n c1 A1 C1 Z w H1.out (by omega) HL1.out).mono ?_
  rintro e w1 ⟨oN, cN, AN, CN, rfl, _, hb1, hN1, _⟩
  have HB1 := hid hb1
  have HN1 := hid hN1
  clear hb1 hN1
  go_wp2_with fail
  refine (copyPairs_any o2 n2 c2 A2 L2 C2 Z2 w1 (H2.out.below HB1.out) (by omega) HL2.out).mono ?_
  rintro e w2 ⟨oP, cP, AP, CP, rfl, _, hb2, hP2, _⟩
  have HB4 := hid (HB1.out.trans (hb2.mono HB1.out.size))
  have HN4 := hid (HN1.out.at.below hb2)
  have HP4 := hid hP2
  clear hb2 hP2 HB1 HN1 H1 H2
  go_wp2_with fail
  refine (copyNext_any oN n cN AN CN Z w2 HN4.out (by omega) HL1.out).mono ?_
  rintro e w5 ⟨oM, cM, AM, CM, rfl, hMn, hb5, hM5, hMr⟩
  have HB5 := hid (HB4.out.trans (hb5.mono HB4.out.size))
  have HM5 := hid hM5.at
  have HN5 := hid (HN4.out.below hb5)
  have HP5 := hid ((HP4.out.below hb5).keep (q := fun _ => True) (fun _ _ _ => rfl) (fun _ _ _ => trivial))
  have HMN := hid (And.intro hMn hMr)
  clear hb5 hM5 HB4 HN4 HP4 hMn hMr
  go_wp2_with fail
  refine (toPairs_any oP n2 cP AP L2 CP Z2 w5 HP5.out (by omega) HL2.out).mono ?_
  rintro e w6 ⟨oQ, cQ, AQ, CQ, rfl, hQn, hb6, hQ6, hQr⟩
  have HB6 := hid (HB5.out.trans (hb6.mono HB5.out.size))
  have HM6 := hid (HM5.out.below hb6)
  have HN6 := hid (HN5.out.below hb6)
  have HP6 := hid (HP5.out.below hb6)
  have HQ6 := hid (hQ6.keep (q := fun _ => True) (w' := w6) (fun _ _ _ => rfl) (fun _ _ _ => trivial))
  have HQN := hid (And.intro hQn hQr)
  clear hb6 HB5 HM5 HP5 HN5 hQn hQ6 hQr
  go_wp2_with fail
  refine (new11 oM n cM AM CM Z oQ n2 cQ w6 HM6.out (by omega) HS1.out HIN.out).mono ?_
  rintro e w7 ⟨lb, gl, g0, g1, vg, ga, AGs, CGs, rfl, hb7, hll, hext, _⟩
  obtain ⟨s, hs⟩ : ∃ s, s = St.mk lb gl g0 g1 n (.slice oM n cM) vg (.slice oQ n2 cQ) (fun _ => false) (fun _ => 0) (fun _ => 0) none 0 [] none 0 [] none 0 [] := ⟨_, rfl⟩
  rw [← hs] at hll hext
  have hslb : s.lb = lb := by rw [hs]
  have e0 : s.va = .slice oM n cM := by rw [hs]
  have e1 : s.vg = .slice (some ⟨ga, 0, none⟩) n n := hext.vg
  have e2 : s.vp = .slice oQ n2 cQ := by rw [hs]
  have e3 : s.n = n := by rw [hs]
  have e4 : s.lo = [] ∧ s.dr = [] ∧ s.mv = [] := by rw [hs]; exact ⟨rfl, rfl, rfl⟩
  have e5 : s.left = (fun _ => false) ∧ s.f0 = (fun _ => 0) ∧ s.f1 = (fun _ => 0) := by rw [hs]; exact ⟨rfl, rfl, rfl⟩
  have HB7 := hid (HB6.out.trans (hb7.mono HB6.out.size))
  have HM7 := hid (HM6.out.below hb7)
  have HN7 := hid (HN6.out.below hb7)
  have HP7 := hid (HP6.out.below hb7)
  have HQ7 := hid (HQ6.out.below hb7)
  have HG7 := hid hext.against.at
  have HLL := hid hll
  have E0 := hid e0
  have E1 := hid e1
  have E2 := hid e2
  have E3 := hid e3
  have E4 := hid e4
  have E5 := hid e5
  rw [← hslb]
  clear hll hext hs hslb e0 e1 e2 e3 e4 e5 hb7 HB6 HM6 HN6 HP6 HQ6
  go_wp2_with fail
  refine (isNil13 _ w7).mono ?_
  rintro e w' ⟨rfl, hw⟩
  have hw' := hw.symm
  subst hw'
  clear hw
  go_wp2_with fail
  refine (get15 s oM n cM w7 HLL.out E0.out).mono ?_
  rintro e w' ⟨rfl, hw⟩
  have hw' := hw.symm
  subst hw'
  clear hw
  go_wp2_with fail
  refine (sameLists14 oM oN n cM cN AM AN CM CN Z w7 HM7.out HN7.out (by omega) HL1.out HMN.out.1 HMN.out.2).mono ?_
  rintro e w8 ⟨rfl, hb8, _⟩
  have HB8 := hid (HB7.out.trans (hb8.mono HB7.out.size))
  have HN8 := hid (HN7.out.below hb8)
  have HP8 := hid (HP7.out.below hb8)
  have HQ8 := hid (HQ7.out.below hb8)
  have HG8 := hid (HG7.out.below hb8)
  have HL8 := hid (HLL.out.belowAll hb8)
  clear hb8 HB7 HM7 HN7 HP7 HQ7 HG7 HLL
  go_wp2_with fail
  refine (get17 s oQ n2 cQ w8 HL8.out E2.out).mono ?_
  rintro e w' ⟨rfl, hw⟩
  have hw' := hw.symm
  subst hw'
  clear hw
  go_wp2_with fail
  refine (samePairs16 oQ oP n2 cQ cP AQ AP L2 CQ CP Z2 w8 HQ8.out HP8.out (by omega) HL2.out HQN.out.1 HQN.out.2).mono ?_
  rintro e w9 ⟨rfl, hb9⟩
  have HB9 := hid (HB8.out.trans (hb9.mono HB8.out.size))
  have HN9 := hid (HN8.out.below hb9)
  have HG9 := hid (HG8.out.below hb9)
  have HL9 := hid (HL8.out.belowAll hb9)
  clear hb9 HB8 HN8 HP8 HQ8 HG8 HL8
  go_wp2_with fail
  refine (get19 s (some ⟨ga, 0, none⟩) n n w9 HL9.out E1.out).mono ?_
  rintro e w' ⟨rfl, hw⟩
  have hw' := hw.symm
  subst hw'
  clear hw
  go_wp2_with fail
  refine (trans18 (some ⟨ga, 0, none⟩) oN n n cN AGs AN CGs CN Z w9 HG9.out HN9.out (by omega) HS1.out HIN.out).mono ?_
  rintro e w10 ⟨rfl, hb10⟩
  have HB10 := hid (HB9.out.trans (hb10.mono HB9.out.size))
  have HL10 := hid (HL9.out.belowAll hb10)
  clear hb10 HB9 HN9 HG9 HL9
  have K20 : Calls Try.prog 20 #[.pointer (some ⟨s.lb, 0, none⟩)] w10 fun e w' => e = .returned (.slice (some ⟨s.gl, 0, none⟩) n n) ∧ w' = w10 := by
    rw [← E3.out]; exact get20 s w10 HL10.out
  have H20 := hid K20
  clear K20
  go_wp2_with fail
  refine H20.out.mono ?_
  rintro e w' ⟨rfl, hw⟩
  have hw' := hw.symm
  subst hw'
  clear hw H20
  go_wp2_with fail
  go_loop [8] (fun i => ∃ k : Nat, k ≤ n ∧ i = .int .i64 k) (fun i => n - (intOf i).toNat)
  case atStart => exact ⟨0, Nat.zero_le _, rfl⟩
  case round =>
    obtain ⟨k, hk, rfl⟩ := hrel
    by_cases hlt : k < n
    · have cl : w10.cell? ⟨s.gl, k, none⟩ = some (.bool false) := by
        have := HL10.out.left.cell (i := k) (by rw [E3.out]; exact hlt)
        rw [this, E5.out.1]
      go_wp2_with fail
      go_round
      case rel => exact ⟨k + 1, by omega, by go_num⟩
      case measure => simp [intOf]; omega
    · have K21 : Calls Try.prog 21 #[.pointer (some ⟨s.lb, 0, none⟩)] w10 fun e w' => e = .returned (.slice s.o4 0 s.c4) ∧ w' = w10 := by
        have := get21 s w10 HL10.out
        rw [E4.out.1] at this; exact this
      have K22 : Calls Try.prog 22 #[.pointer (some ⟨s.lb, 0, none⟩)] w10 fun e w' => e = .returned (.slice s.o5 0 s.c5) ∧ w' = w10 := by
        have := get22 s w10 HL10.out
        rw [E4.out.2.1] at this; exact this
      have K23 : Calls Try.prog 23 #[.pointer (some ⟨s.lb, 0, none⟩)] w10 fun e w' => e = .returned (.slice s.o8 0 s.c8) ∧ w' = w10 := by
        have := get23 s w10 HL10.out
        rw [E4.out.2.2] at this; exact this
      have K25 : Calls Try.prog 25 #[.pointer (some ⟨s.lb, 0, none⟩)] w10 fun e w' => e = .returned (.slice (some ⟨s.g0, 0, none⟩) n n) ∧ w' = w10 := by
        rw [← E3.out]; exact get25 s w10 HL10.out
      have K26 : Calls Try.prog 26 #[.pointer (some ⟨s.lb, 0, none⟩)] w10 fun e w' => e = .returned (.slice (some ⟨s.g1, 0, none⟩) n n) ∧ w' = w10 := by
        rw [← E3.out]; exact get26 s w10 HL10.out
      have K24 : Calls Try.prog 24 #[.slice (some ⟨s.g0, 0, none⟩) n n, .int .i64 n] w10 fun e w' => e = .returned (.bool true) ∧ w' = w10 :=
        allZero24 s.g0 n n w10 (by rw [← E3.out]; exact HL10.out.f0.congr fun i _ => by rw [E5.out.2.1]; rfl) (by omega)
      have K24b : Calls Try.prog 24 #[.slice (some ⟨s.g1, 0, none⟩) n n, .int .i64 n] w10 fun e w' => e = .returned (.bool true) ∧ w' = w10 :=
        allZero24 s.g1 n n w10 (by rw [← E3.out]; exact HL10.out.f1.congr fun i _ => by rw [E5.out.2.2]; rfl) (by omega)
      have Q21 := hid K21
      have Q22 := hid K22
      have Q23 := hid K23
      have Q25 := hid K25
      have Q26 := hid K26
      have Q24 := hid K24
      have Q24b := hid K24b
      clear K21 K22 K23 K25 K26 K24 K24b
      go_wp2_with fail
      refine Q21.out.mono ?_
      rintro e w' ⟨rfl, hw⟩
      have hw' := hw.symm
      subst hw'
      clear hw Q21
      go_wp2_with fail
      refine Q22.out.mono ?_
      rintro e w' ⟨rfl, hw⟩
      have hw' := hw.symm
      subst hw'
      clear hw Q22
      go_wp2_with fail
      refine Q23.out.mono ?_
      rintro e w' ⟨rfl, hw⟩
      have hw' := hw.symm
      subst hw'
      clear hw Q23
      go_wp2_with fail
      refine Q25.out.mono ?_
      rintro e w' ⟨rfl, hw⟩
      have hw' := hw.symm
      subst hw'
      clear hw Q25
      go_wp2_with fail
      refine Q24.out.mono ?_
      rintro e w' ⟨rfl, hw⟩
      have hw' := hw.symm
      subst hw'
      clear hw Q24
      go_wp2_with fail
      refine Q26.out.mono ?_
      rintro e w' ⟨rfl, hw⟩
      have hw' := hw.symm
      subst hw'
      clear hw Q26
      go_wp2_with fail
      refine Q24b.out.mono ?_
      rintro e w' ⟨rfl, hw⟩
      have hw' := hw.symm
      subst hw'
      clear hw Q24b
      go_wp2
      go_ret
      exact ⟨rfl, HB10.out⟩

end Go.Proofs.Qxb6617182a
