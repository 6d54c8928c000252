import Derived.Test.Qxb6617182aSteps
import Derived.Test.Qxb6617182aSame
import Derived.Test.Qxb6617182aToPairs
import Derived.Test.Qxb6617182aSize
import Derived.Test.Qxb6617182aZz27
import Derived.Test.Qxb6617182aRange
namespace Go.Proofs.Qxb6617182a
open Go.RowKit Go.Deep

/-! ### The plain law -/

theorem firsts_append_replicate (l : List Int) (c : Nat) (x : Int) (hx : ¬ x ∈ l) : firsts (l ++ List.replicate c x) = if c = 0 then firsts l else firsts l ++ [x] := by
  induction c with
  | zero => simp
  | succ c ih =>
    rw [List.replicate_succ', ← List.append_assoc, firsts_snoc, ih]
    by_cases hc : c = 0
    · subst hc
      have : ¬ x ∈ firsts l := fun h => hx (mem_firsts.1 h)
      simp [addNew, this]
    · simp [addNew, hc]

theorem srcs_lt (Z : Nat → List Int) (x : Int) (k : Nat) : ∀ y ∈ srcs Z x k, 0 ≤ y ∧ y < k := by
  induction k with
  | zero => intro y hy; simp [srcs] at hy
  | succ k ih =>
    intro y hy
    simp only [srcs, List.mem_append, List.mem_replicate] at hy
    rcases hy with hy | ⟨_, rfl⟩
    · have := ih y hy; omega
    · omega

theorem firsts_srcs (Z : Nat → List Int) (x : Int) (k : Nat) : firsts (srcs Z x k) = backTo Z x k := by
  induction k with
  | zero => rfl
  | succ k ih =>
    rw [srcs, firsts_append_replicate _ _ _ (fun h => by have := srcs_lt Z x k _ h; omega), ih, backTo]
    by_cases h : x ∈ Z k
    · rw [if_pos h, if_neg (fun e => by have := List.count_pos_iff.2 h; omega)]
    · rw [if_neg h, if_pos (List.count_eq_zero.2 h)]

theorem walk_nb (N : Net) (s : St) (b : Bool) (n v : Nat) (hl : s.left = fun _ => false) (hG : N.ZG = fun x : Nat => srcs N.ZA x n) : N.walk s b v = nb b N.ZA n v := by
  unfold Net.walk
  rw [List.filter_eq_self.2 (fun x _ => by rw [hl]; rfl)]
  cases b with
  | false => rfl
  | true =>
    show firsts (N.ZG v) = backTo N.ZA v n
    rw [hG]
    exact firsts_srcs N.ZA v n

theorem list_in (N : Net) (b : Bool) (v : Nat) (hv : v < N.n) (hG : N.ZG = fun x : Nat => srcs N.ZA x N.n) (hin : ∀ r, r < N.n → ∀ x ∈ N.ZA r, 0 ≤ x ∧ x < N.n) : ∀ x ∈ N.list b v, 0 ≤ x ∧ x < N.n := by
  cases b with
  | false => exact hin v hv
  | true =>
    show ∀ x ∈ N.ZG v, _
    rw [hG]
    exact srcs_lt N.ZA v N.n

theorem list_len (N : Net) (b : Bool) (v : Nat) (hv : v < N.n) (hG : N.ZG = fun x : Nat => srcs N.ZA x N.n) (hs : sumTo (fun r => (N.ZA r).length) N.n ≤ 131072) : (N.list b v).length ≤ 1048576 := by
  cases b with
  | false =>
    have := sumTo_ge (fun r => (N.ZA r).length) hv
    show (N.ZA v).length ≤ _
    omega
  | true =>
    show (N.ZG v).length ≤ _
    rw [hG]
    show (srcs N.ZA v N.n).length ≤ _
    rw [srcs_length]
    have := List.count_le_length (a := (v : Int)) (l := flat N.ZA N.n)
    rw [flat_length] at this
    omega

theorem nb_len (b : Bool) (Z : Nat → List Int) (n v : Nat) (hn : n ≤ 1048576) (hz : (Z v).length ≤ 1048576) : (nb b Z n v).length ≤ 1048576 := by
  cases b with
  | false => exact Nat.le_trans (firsts_len _) hz
  | true => exact Nat.le_trans (backTo_len Z v n) hn

/-! ### The lists, ready for a walk -/

structure Ready (B : Nat) (w wr : World) (s : St) (N : Net) : Prop where
  ll : LL wr s
  ext : Ext wr s N
  clean : Clean s
  below : Below B w wr
  size : B ≤ wr.heap.size
  own : ∀ k, s.has k → B ≤ k

theorem Moved.below {B : Nat} {w wa wb : World} {s s' : St} (m : Moved wa wb s s') (hb : Below B w wa) (hs : B ≤ wa.heap.size) (ho : ∀ k, s.has k → B ≤ k) : Below B w wb :=
  ⟨m.os.trans hb.os, m.tape.trans hb.tape, m.output.trans hb.output, Nat.le_trans hb.size m.size, fun k hk => (m.block k (by omega) (fun hc => by have := ho k hc; omega)).trans (hb.block k hk)⟩

theorem Moved.own {B : Nat} {wa wb : World} {s s' : St} (m : Moved wa wb s s') (hs : B ≤ wa.heap.size) (ho : ∀ k, s.has k → B ≤ k) : ∀ k, s'.has k → B ≤ k := fun k hk => by
  rcases m.fresh k hk with h | h
  · exact ho k h
  · omega

/-- Behind a walk, lawSameInts and restore the lists are ready again. -/
theorem Ready.again {B : Nat} {w wr w1 w2 w3 : World} {s s' s'' : St} {N : Net} (h : Ready B w wr s N) (m1 : Moved wr w1 s s') (hb : Below w1.heap.size w1 w2)
    (m3 : Moved w2 w3 s' s'.restored) (h3 : LL w3 s'.restored) (he : s'.restored = s'') (hc : Clean s'') (en : s''.n = s.n) (ea : s''.va = s.va) (eg : s''.vg = s.vg) : Ready B w w3 s'' N ∧ Moved wr w3 s s'' := by
  subst he
  have m2 : Moved w1 w2 s' s' := ⟨hb.os, hb.tape, hb.output, hb.size, fun k hk _ => hb.block k hk, fun _ hk => Or.inl hk⟩
  have m := m1.trans (m2.trans m3)
  exact ⟨⟨h3, h.ext.moved m en ea eg, hc, m.below h.below h.size h.own, Nat.le_trans h.size m.size, m.own h.size h.own⟩, m⟩

theorem LL.belowAll {w w' : World} {s : St} (h : LL w s) (hb : Below w.heap.size w w') : LL w' s := h.keep fun k _ hl => hb.block k hl

set_option maxHeartbeats 4000000 in
theorem law4 (o1 : Option Addr) (n c1 : Nat) (A1 : Nat → Option Addr) (C1 : Nat → Nat) (Z : Nat → List Int) (o2 : Option Addr) (n2 c2 : Nat) (A2 : Nat → Option Addr) (L2 C2 : Nat → Nat) (Z2 : Nat → List Int) (v : Int) (b : Bool) (w : World)
    (h1 : MatAt w o1 n A1 C1 Z) (h2 : PMatP (fun _ => True) w o2 n2 A2 L2 C2 Z2) (m1 : n ≤ maxLen) (m2 : n2 ≤ maxLen) (ml1 : ∀ r, r < n → (Z r).length ≤ maxLen) (ml2 : ∀ r, r < n2 → L2 r ≤ maxLen) :
    Calls Try.prog 4 #[.slice o1 n c1, .slice o2 n2 c2, .int .i64 v, .bool b] w fun e w' => e = .returned (.bool true) ∧ Below w.heap.size w w' := by
  have k27 := hid (zz27_any o1 o2 n c1 n2 c2 v b A1 A2 _ C1 L2 C2 w h1.1 h2.slices m1 m2 ml1 ml2)
  have k7 := hid (size_any o1 o2 none n c1 n2 c2 0 0 A1 A2 _ C1 L2 C2 w h1.1 h2.slices m1 m2 (Nat.zero_le _) ml1 ml2)
  have k8 := hid (range_any o1 n c1 A1 C1 Z w h1 m1 ml1)
  have H1 := hid h1
  have H2 := hid h2
  unfold maxLen at m1
  clear h1 h2 ml1 ml2 m2
  go_enter Try.func4, Try.ntmps4
  go_wp2_with fail
  refine k27.out.mono ?_
  rintro e w' ⟨hw, b0, rfl, _⟩
  have hw' := hw.symm
  subst hw'
  clear hw
  cases b0 with
  | false =>
    go_wp2
    go_ret
    exact ⟨rfl, Below.refl _ _⟩
  | true =>
  go_wp2_with fail
  refine k7.out.mono ?_
  rintro e w' ⟨hw, b0, rfl, hsz⟩
  have hw' := hw.symm
  subst hw'
  clear hw
  cases b0 with
  | false =>
    clear hsz
    go_wp2
    go_ret
    exact ⟨rfl, Below.refl _ _⟩
  | true =>
  have HSZ := hid (hsz rfl)
  clear hsz
  by_cases hv0 : v < 0
  · go_wp2_with fail
    go_ret
    exact ⟨rfl, Below.refl _ _⟩
  by_cases hv1 : (n : Int) ≤ v
  · go_wp2_with fail
    go_ret
    exact ⟨rfl, Below.refl _ _⟩
  go_wp2_with fail
  refine k8.out.mono ?_
  rintro e w' ⟨hw, b0, rfl, hin⟩
  have hw' := hw.symm
  subst hw'
  clear hw
  cases b0 with
  | false =>
    clear hin
    go_wp2
    go_ret
    exact ⟨rfl, Below.refl _ _⟩
  | true =>
  have HIN := hid (hin rfl)
  clear hin k27 k7 k8
  obtain ⟨vn, rfl⟩ : ∃ vn : Nat, v = (vn : Int) := ⟨v.toNat, by omega⟩
  have hvn : vn < n := by omega
  clear hv0 hv1
  have hs1 : sumTo (fun r => (Z r).length) n ≤ 131072 := by have := HSZ.out; omega
  have hs2 : sumTo L2 n2 ≤ 131072 := by have := HSZ.out; omega
  have hn1 : n ≤ 131072 := by have := HSZ.out; omega
  have hn2 : n2 ≤ 131072 := by have := HSZ.out; omega
  have HL1 := hid (show ∀ r, r < n → (Z r).length ≤ 1048576 from fun r hr => by have := sumTo_ge (fun r => (Z r).length) hr; omega)
  have HL2 := hid (show ∀ r, r < n2 → L2 r ≤ 1048576 from fun r hr => by have := sumTo_ge L2 hr; omega)
  have HS1 := hid hs1
  clear hs1 hs2 HSZ
  go_wp2_with fail
  refine (copyNext_any o1 n c1 A1 C1 Z w H1.out (by omega) HL1.out).mono ?_
  rintro e w1 ⟨oN, cN, AN, CN, rfl, _, hb1, hN1, _⟩
  have HB1 := hid hb1
  have HN1 := hid hN1
  clear hb1 hN1
  go_wp2_with fail
  refine (copyPairs_any o2 n2 c2 A2 L2 C2 Z2 w1 (H2.out.below HB1.out) (by omega) HL2.out).mono ?_
  rintro e w2 ⟨oP, cP, AP, CP, rfl, _, hb2, hP2, _⟩
  have HB2 := hid (HB1.out.trans (hb2.mono HB1.out.size))
  have HN2 := hid (HN1.out.at.below hb2)
  have HP2 := hid hP2
  clear hb2 hP2 HB1 HN1 H1 H2
  go_wp2_with fail
  refine (neigh_any oN n cN AN CN Z vn b w2 HN2.out (by omega) hvn HL1.out HIN.out).mono ?_
  obtain ⟨zw, hzw⟩ : ∃ z, z = nb b Z n vn := ⟨_, rfl⟩
  rw [← hzw]
  have HZW := hid hzw
  clear hzw
  rintro e w3 ⟨ow, cw, rfl, hb3, hw3⟩
  have HB3 := hid (HB2.out.trans (hb3.mono HB2.out.size))
  have HN3 := hid (HN2.out.below hb3)
  have HP3 := hid (HP2.out.below hb3)
  have HW3 := hid hw3.at
  clear hb3 hw3 HB2 HN2 HP2
  go_wp2_with fail
  refine (neigh_any oN n cN AN CN Z vn (!b) w3 HN3.out (by omega) hvn HL1.out HIN.out).mono ?_
  obtain ⟨zo, hzo⟩ : ∃ z, z = nb (!b) Z n vn := ⟨_, rfl⟩
  rw [← hzo]
  have HZO := hid hzo
  clear hzo
  rintro e w4 ⟨oo, co, rfl, hb4, hw4⟩
  have HB4 := hid (HB3.out.trans (hb4.mono HB3.out.size))
  have HN4 := hid (HN3.out.below hb4)
  have HP4 := hid (HP3.out.below hb4)
  have HW4 := hid (HW3.out.below hb4)
  have HO4 := hid hw4.at
  clear hb4 hw4 HB3 HN3 HP3 HW3
  go_wp2_with fail
  refine (copyNext_any oN n cN AN CN Z w4 HN4.out (by omega) HL1.out).mono ?_
  rintro e w5 ⟨oM, cM, AM, CM, rfl, _, hb5, hM5, _⟩
  have HB5 := hid (HB4.out.trans (hb5.mono HB4.out.size))
  have HM5 := hid hM5.at
  have HP5 := hid (HP4.out.below hb5)
  have HW5 := hid (HW4.out.below hb5)
  have HO5 := hid (HO4.out.below hb5)
  clear hb5 hM5 HB4 HN4 HP4 HW4 HO4
  go_wp2_with fail
  refine (toPairs_any oP n2 cP AP L2 CP Z2 w5 (HP5.out.keep (fun _ _ _ => rfl) (fun _ _ _ => trivial)) (by omega) HL2.out).mono ?_
  rintro e w6 ⟨oQ, cQ, AQ, CQ, rfl, _, hb6, _, _⟩
  have HB6 := hid (HB5.out.trans (hb6.mono HB5.out.size))
  have HM6 := hid (HM5.out.below hb6)
  have HW6 := hid (HW5.out.below hb6)
  have HO6 := hid (HO5.out.below hb6)
  clear hb6 HB5 HM5 HP5 HW5 HO5
  go_wp2_with fail
  refine (new11 oM n cM AM CM Z oQ n2 cQ w6 HM6.out (by omega) HS1.out HIN.out).mono ?_
  rintro e w7 ⟨lb, gl, g0, g1, vg, ga, AGs, CGs, rfl, hb7, hll, hext, hown⟩
  obtain ⟨s, hs⟩ : ∃ s, s = St.mk lb gl g0 g1 n (.slice oM n cM) vg (.slice oQ n2 cQ) (fun _ => false) (fun _ => 0) (fun _ => 0) none 0 [] none 0 [] none 0 [] := ⟨_, rfl⟩
  obtain ⟨N, hN⟩ : ∃ N, N = Net.mk n oM cM AM CM Z (some ⟨ga, 0, none⟩) n AGs CGs (fun x => srcs Z x n) := ⟨_, rfl⟩
  rw [← hs] at hll hext hown
  rw [← hN] at hext
  have hslb : s.lb = lb := by rw [hs]
  have hNn : N.n = n := by rw [hN]
  have hNA : N.ZA = Z := by rw [hN]
  have hNG : N.ZG = fun x : Nat => srcs N.ZA x N.n := by rw [hN]
  have hleft : s.left = fun _ => false := by rw [hs]
  have hw6 : w.heap.size ≤ w6.heap.size := HB6.out.size
  have R0 : Ready w.heap.size w w7 s N := ⟨hll, hext, by rw [hs]; exact ⟨rfl, rfl, rfl, rfl⟩, HB6.out.trans (hb7.mono hw6), Nat.le_trans hw6 hb7.size, fun k hk => Nat.le_trans hw6 (hown k hk)⟩
  have W7 : IntsP (fun b => ¬ s.has b) w7 ow zw := HW6.out.p.keep (fun b _ hl => hb7.block b hl) (fun b hb _ hc => by have := hown b hc; omega)
  have O7 : IntsP (fun b => ¬ s.has b) w7 oo zo := HO6.out.p.keep (fun b _ hl => hb7.block b hl) (fun b hb _ hc => by have := hown b hc; omega)
  have HR1 := hid R0
  have HW7 := hid W7
  have HO7 := hid O7
  have HNN := hid hNn
  have HNA := hid hNA
  have HNG := hid hNG
  have HLF := hid hleft
  have HWL := hid (show ∀ b, (N.list b vn).length ≤ 1048576 from fun b => list_len N b vn (by rw [hNn]; exact hvn) hNG (by rw [hNA, hNn]; exact HS1.out))
  have HWI := hid (show ∀ b, ∀ x ∈ N.list b vn, 0 ≤ x ∧ x < N.n from fun b => list_in N b vn (by rw [hNn]; exact hvn) hNG (by rw [hNA, hNn]; exact HIN.out))
  have hzwl : zw.length ≤ 1048576 := by rw [HZW.out]; exact nb_len b Z n vn (by omega) (HL1.out vn hvn)
  have hzol : zo.length ≤ 1048576 := by rw [HZO.out]; exact nb_len (!b) Z n vn (by omega) (HL1.out vn hvn)
  rw [← hslb]
  clear hll hext hown hs hN hNn hNA hNG hleft hb7 R0 W7 O7 HB6 HM6 HW6 HO6 hslb
  go_wp2_with fail
  refine (isNil13 _ w7).mono ?_
  rintro e w' ⟨rfl, hw⟩
  have hw' := hw.symm
  subst hw'
  clear hw
  go_wp2_with fail
  have K1 : Calls Try.prog 29 #[.pointer (some ⟨s.lb, 0, none⟩), .int .i64 n, .int .i64 vn, .bool b] w7 (Walked s zw w7) := by
    have := walk_any s N b vn w7 HR1.out.ll HR1.out.ext HR1.out.clean (by rw [HNN.out]; exact hvn) (HWL.out b) (HWI.out b) (by rw [HNN.out]; omega)
    rw [walk_nb N s b N.n vn HLF.out HNG.out, HNA.out, HNN.out, ← HZW.out] at this
    exact this
  refine K1.mono ?_
  clear K1
  rintro e w8 ⟨oq1, cq1, t1, rfl, hll, hmo, hseq, elb, en, hlo, hmv, hl4, hl8, p4, d4, p8, d8, hres⟩
  have HLL1 := hid hll
  have HMO1 := hid hmo
  have HSQ1 := hid hseq
  have HRS1 := hid (And.intro elb (And.intro en (And.intro hlo (And.intro hmv (And.intro hl4 (And.intro hl8 hres))))))
  clear hll hmo hseq elb en hlo hmv hl4 hl8 hres
  go_wp2_with fail
  refine (sameInts_any oq1 ow cq1 cw zw w8 HSQ1.out.at (HMO1.out.ints HW7.out).at hzwl).mono ?_
  rintro e w9 ⟨rfl, hbs, _⟩
  have HBS1 := hid hbs
  clear hbs
  go_wp2_with fail
  have Q1 : Calls Try.prog 31 #[.pointer (some ⟨s.lb, 0, none⟩)] w9 (Restored t1 w9) := by
    obtain ⟨elb, en, hlo, hmv, hl4, hl8, hres⟩ := HRS1.out
    have e1 : t1.lb = s.lb := elb
    rw [← e1]
    exact restore31 t1 w9 (HLL1.out.belowAll HBS1.out) (by rw [en]; exact hlo) (by rw [en]; exact hmv) hl4 hl8
  refine Q1.mono ?_
  clear Q1
  rintro e w10 ⟨rfl, hll, hmo⟩
  obtain ⟨s2, hs2⟩ : ∃ x, x = s.with48 p4 d4 p8 d8 := ⟨_, rfl⟩
  have AG1 := HR1.out.again HMO1.out HBS1.out hmo hll (HRS1.out.2.2.2.2.2.2.trans hs2.symm) (by rw [hs2]; exact HR1.out.clean.with48 _ _ _ _) (by rw [hs2]; rfl) (by rw [hs2]; rfl) (by rw [hs2]; rfl)
  have HR2 := hid AG1.1
  have HW10 := hid (AG1.2.ints HW7.out)
  have HO10 := hid (AG1.2.ints HO7.out)
  have HLF2 := hid (show s2.left = fun _ => false by rw [hs2]; exact HLF.out)
  have HLB2 := hid (show s2.lb = s.lb by rw [hs2]; rfl)
  clear AG1 hll hmo hs2 HR1 HLL1 HMO1 HSQ1 HRS1 HBS1 HW7 HO7 HLF
  rw [show s.lb = s2.lb from HLB2.out.symm]
  clear HLB2
  go_wp2_with fail
  have K2 : Calls Try.prog 29 #[.pointer (some ⟨s2.lb, 0, none⟩), .int .i64 n, .int .i64 vn, .bool (!b)] w10 (Walked s2 zo w10) := by
    have := walk_any s2 N (!b) vn w10 HR2.out.ll HR2.out.ext HR2.out.clean (by rw [HNN.out]; exact hvn) (HWL.out (!b)) (HWI.out (!b)) (by rw [HNN.out]; omega)
    rw [walk_nb N s2 (!b) N.n vn HLF2.out HNG.out, HNA.out, HNN.out, ← HZO.out] at this
    exact this
  refine K2.mono ?_
  clear K2
  rintro e w11 ⟨oq2, cq2, t2, rfl, hll, hmo, hseq, elb, en, hlo, hmv, hl4, hl8, p4, d4, p8, d8, hres⟩
  have HLL2 := hid hll
  have HMO2 := hid hmo
  have HSQ2 := hid hseq
  have HRS2 := hid (And.intro elb (And.intro en (And.intro hlo (And.intro hmv (And.intro hl4 (And.intro hl8 hres))))))
  clear hll hmo hseq elb en hlo hmv hl4 hl8 hres
  go_wp2_with fail
  refine (sameInts_any oq2 oo cq2 co zo w11 HSQ2.out.at (HMO2.out.ints HO10.out).at hzol).mono ?_
  rintro e w12 ⟨rfl, hbs, _⟩
  have HBS2 := hid hbs
  clear hbs
  go_wp2_with fail
  have Q2 : Calls Try.prog 31 #[.pointer (some ⟨s2.lb, 0, none⟩)] w12 (Restored t2 w12) := by
    obtain ⟨elb, en, hlo, hmv, hl4, hl8, hres⟩ := HRS2.out
    have e1 : t2.lb = s2.lb := elb
    rw [← e1]
    exact restore31 t2 w12 (HLL2.out.belowAll HBS2.out) (by rw [en]; exact hlo) (by rw [en]; exact hmv) hl4 hl8
  refine Q2.mono ?_
  clear Q2
  rintro e w13 ⟨rfl, hll, hmo⟩
  obtain ⟨s3, hs2⟩ : ∃ x, x = s2.with48 p4 d4 p8 d8 := ⟨_, rfl⟩
  have AG2 := HR2.out.again HMO2.out HBS2.out hmo hll (HRS2.out.2.2.2.2.2.2.trans hs2.symm) (by rw [hs2]; exact HR2.out.clean.with48 _ _ _ _) (by rw [hs2]; rfl) (by rw [hs2]; rfl) (by rw [hs2]; rfl)
  have HR3 := hid AG2.1
  have HW13 := hid (AG2.2.ints HW10.out)
  have HLF3 := hid (show s3.left = fun _ => false by rw [hs2]; exact HLF2.out)
  have HLB3 := hid (show s3.lb = s2.lb by rw [hs2]; rfl)
  clear AG2 hll hmo hs2 HR2 HLL2 HMO2 HSQ2 HRS2 HBS2 HW10 HO10 HLF2
  rw [show s2.lb = s3.lb from HLB3.out.symm]
  clear HLB3
  go_wp2_with fail
  have K3 : Calls Try.prog 29 #[.pointer (some ⟨s3.lb, 0, none⟩), .int .i64 n, .int .i64 vn, .bool b] w13 (Walked s3 zw w13) := by
    have := walk_any s3 N b vn w13 HR3.out.ll HR3.out.ext HR3.out.clean (by rw [HNN.out]; exact hvn) (HWL.out b) (HWI.out b) (by rw [HNN.out]; omega)
    rw [walk_nb N s3 b N.n vn HLF3.out HNG.out, HNA.out, HNN.out, ← HZW.out] at this
    exact this
  refine K3.mono ?_
  clear K3
  rintro e w14 ⟨oq3, cq3, t3, rfl, hll, hmo, hseq, elb, en, hlo, hmv, hl4, hl8, p4, d4, p8, d8, hres⟩
  have HLL3 := hid hll
  have HMO3 := hid hmo
  have HSQ3 := hid hseq
  have HRS3 := hid (And.intro elb (And.intro en (And.intro hlo (And.intro hmv (And.intro hl4 (And.intro hl8 hres))))))
  clear hll hmo hseq elb en hlo hmv hl4 hl8 hres
  go_wp2_with fail
  refine (sameInts_any oq3 ow cq3 cw zw w14 HSQ3.out.at (HMO3.out.ints HW13.out).at hzwl).mono ?_
  rintro e w15 ⟨rfl, hbs, _⟩
  have HBS3 := hid hbs
  clear hbs
  go_wp2
  go_ret
  refine ⟨rfl, ?_⟩
  have m := HMO3.out
  exact (m.below HR3.out.below HR3.out.size HR3.out.own).trans (HBS3.out.mono (Nat.le_trans HR3.out.size m.size))
end Go.Proofs.Qxb6617182a
