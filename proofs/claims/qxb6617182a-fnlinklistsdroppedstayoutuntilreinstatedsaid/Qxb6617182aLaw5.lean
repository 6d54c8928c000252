import Derived.Test.Qxb6617182aLaw4
import Derived.Test.Qxb6617182aDrops
import Derived.Test.Qxb6617182aDrop
import Derived.Test.Qxb6617182aZz32
namespace Go.Proofs.Qxb6617182a
open Go.RowKit Go.Deep

theorem foldl_filter (p : Int → Bool) : ∀ (l acc : List Int), (l.filter p).foldl addNew (acc.filter p) = (l.foldl addNew acc).filter p := by
  intro l
  induction l with
  | nil => intro acc; rfl
  | cons x l ih =>
    intro acc
    cases hp : p x with
    | true =>
      rw [List.filter_cons_of_pos hp, List.foldl_cons, List.foldl_cons, ← ih (addNew acc x)]
      congr 1
      unfold addNew
      by_cases hx : x ∈ acc
      · rw [if_pos hx, if_pos (List.mem_filter.2 ⟨hx, hp⟩)]
      · rw [if_neg hx, if_neg (fun h => hx (List.mem_filter.1 h).1), List.filter_append, List.filter_cons_of_pos hp, List.filter_nil]
    | false =>
      rw [List.filter_cons_of_neg (by rw [hp]; simp), List.foldl_cons, ← ih (addNew acc x)]
      congr 1
      unfold addNew
      by_cases hx : x ∈ acc
      · rw [if_pos hx]
      · rw [if_neg hx, List.filter_append, List.filter_cons_of_neg (by rw [hp]; simp), List.filter_nil, List.append_nil]

theorem firsts_filter (p : Int → Bool) (l : List Int) : firsts (l.filter p) = (firsts l).filter p := foldl_filter p l []

/-- The lists with the nodes of l dropped. -/
def St.drops (s : St) (l : List Int) (o : Option Addr) (c : Nat) : St := { s with left := fun i => decide ((i : Int) ∈ l), o5 := o, c5 := c, dr := l }

theorem St.drops_nil (s : St) (hl : s.left = fun _ => false) (hd : s.dr = []) : s.drops [] s.o5 s.c5 = s := by
  have e : (fun i : Nat => decide ((i : Int) ∈ ([] : List Int))) = s.left := by rw [hl]; funext i; simp
  unfold St.drops
  rw [e, ← hd]

theorem St.drops_step (s : St) (l : List Int) (o o' : Option Addr) (c c' x : Nat) : (s.drops l o c).dropped x o' c' = s.drops (l ++ [(x : Int)]) o' c' := by
  have e : (fun i => if i = x then true else (s.drops l o c).left i) = fun i : Nat => decide ((i : Int) ∈ l ++ [(x : Int)]) := by
    funext i
    by_cases h : i = x
    · subst h; simp
    · have h' : ¬ (i : Int) = (x : Int) := by omega
      simp [h, h', St.drops]
  unfold St.dropped
  rw [e]
  rfl

theorem drops_clean {s : St} (h : Clean s) (l : List Int) (o : Option Addr) (c : Nat) : Clean (s.drops l o c) := ⟨h.lo, h.mv, h.f0, h.f1⟩

theorem walk_drops (N : Net) (s : St) (b : Bool) (n v : Nat) (ds : List Int) (hl : s.left = fun i : Nat => decide ((i : Int) ∈ ds)) (hG : N.ZG = fun x : Nat => srcs N.ZA x n) (hin : ∀ x ∈ N.list b v, 0 ≤ x ∧ x < N.n) :
    N.walk s b v = (nb b N.ZA n v).filter fun x => !decide (x ∈ ds) := by
  have e1 : (N.list b v).filter (fun x => !s.left x.toNat) = (N.list b v).filter fun x => !decide (x ∈ ds) := by
    apply List.filter_congr
    intro x hx
    have := hin x hx
    rw [hl]
    show (!decide (((x.toNat : Nat) : Int) ∈ ds)) = _
    rw [Int.toNat_of_nonneg this.1]
  unfold Net.walk
  rw [e1, firsts_filter]
  congr 1
  cases b with
  | false => rfl
  | true =>
    show firsts (N.ZG v) = backTo N.ZA v n
    rw [hG]
    exact firsts_srcs N.ZA v n

theorem nb_in (b : Bool) (Z : Nat → List Int) (n v : Nat) (hv : v < n) (hin : ∀ r, r < n → ∀ x ∈ Z r, 0 ≤ x ∧ x < n) : ∀ x ∈ nb b Z n v, 0 ≤ x ∧ x < n := by
  cases b with
  | false => intro x hx; exact hin v hv x (mem_firsts.1 hx)
  | true =>
    intro x hx
    have hx' : x ∈ backTo Z v n := hx
    rw [← firsts_srcs] at hx'
    exact srcs_lt Z v n x (mem_firsts.1 hx')

/-- One node more is dropped. -/
theorem Ready.drop {B : Nat} {w wr w1 : World} {s s' : St} {N : Net} (h : Ready B w wr s N) (m : Moved wr w1 s s') (hl : LL w1 s') (hc : Clean s') (en : s'.n = s.n) (ea : s'.va = s.va) (eg : s'.vg = s.vg) : Ready B w w1 s' N :=
  ⟨hl, h.ext.moved m en ea eg, hc, m.below h.below h.size h.own, Nat.le_trans h.size m.size, m.own h.size h.own⟩

set_option maxHeartbeats 4000000 in
set_option maxRecDepth 20000 in
theorem law5 (o1 : Option Addr) (n c1 : Nat) (A1 : Nat → Option Addr) (C1 : Nat → Nat) (Z : Nat → List Int) (o2 : Option Addr) (n2 c2 : Nat) (A2 : Nat → Option Addr) (L2 C2 : Nat → Nat) (Z2 : Nat → List Int) (v : Int) (b : Bool) (o3 : Option Addr) (c3 : Nat) (ds : List Int) (w : World)
    (h1 : MatAt w o1 n A1 C1 Z) (h2 : PMatP (fun _ => True) w o2 n2 A2 L2 C2 Z2) (h3 : IntsAt w o3 ds) (m1 : n ≤ maxLen) (m2 : n2 ≤ maxLen) (m3 : ds.length ≤ maxLen) (ml1 : ∀ r, r < n → (Z r).length ≤ maxLen) (ml2 : ∀ r, r < n2 → L2 r ≤ maxLen) :
    Calls Try.prog 5 #[.slice o1 n c1, .slice o2 n2 c2, .int .i64 v, .bool b, .slice o3 ds.length c3] w fun e w' => e = .returned (.bool true) ∧ Below w.heap.size w w' := by
  have k32 := hid (zz32_any o1 o2 o3 n c1 n2 c2 ds.length c3 v b A1 A2 _ C1 L2 C2 w h1.1 h2.slices m1 m2 m3 ml1 ml2)
  have k7 := hid (size_any o1 o2 o3 n c1 n2 c2 ds.length c3 A1 A2 _ C1 L2 C2 w h1.1 h2.slices m1 m2 m3 ml1 ml2)
  have k8 := hid (range_any o1 n c1 A1 C1 Z w h1 m1 ml1)
  have H1 := hid h1
  have H2 := hid h2
  have H3 := hid h3
  have HM3 := hid m3
  unfold maxLen at m1 m3
  clear h1 h2 h3 ml1 ml2 m2
  go_enter Try.func5, Try.ntmps5
  go_wp2_with fail
  refine k32.out.mono ?_
  rintro e w' ⟨hw, b0, rfl, _⟩
  have hw' := hw.symm
  subst hw'
  clear hw
  cases b0 with
  | false =>
    go_wp2
    go_ret
    exact ⟨rfl, Below.refl _ _⟩
  | true =>
  go_wp2_with fail
  refine k7.out.mono ?_
  rintro e w' ⟨hw, b0, rfl, hsz⟩
  have hw' := hw.symm
  subst hw'
  clear hw
  cases b0 with
  | false =>
    clear hsz
    go_wp2
    go_ret
    exact ⟨rfl, Below.refl _ _⟩
  | true =>
  have HSZ := hid (hsz rfl)
  clear hsz
  by_cases hv0 : v < 0
  · go_wp2_with fail
    go_ret
    exact ⟨rfl, Below.refl _ _⟩
  by_cases hv1 : (n : Int) ≤ v
  · go_wp2_with fail
    go_ret
    exact ⟨rfl, Below.refl _ _⟩
  have hs1 : sumTo (fun r => (Z r).length) n ≤ 131072 := by have := HSZ.out; omega
  have hs2 : sumTo L2 n2 ≤ 131072 := by have := HSZ.out; omega
  have hn1 : n ≤ 131072 := by have := HSZ.out; omega
  have hn2 : n2 ≤ 131072 := by have := HSZ.out; omega
  have hdl : ds.length ≤ 131072 := by have := HSZ.out; omega
  have HL1 := hid (show ∀ r, r < n → (Z r).length ≤ 1048576 from fun r hr => by have := sumTo_ge (fun r => (Z r).length) hr; omega)
  have HL2 := hid (show ∀ r, r < n2 → L2 r ≤ 1048576 from fun r hr => by have := sumTo_ge L2 hr; omega)
  have HS1 := hid hs1
  clear hs1 hs2 HSZ
  go_wp2_with fail
  refine k8.out.mono ?_
  rintro e w' ⟨hw, b0, rfl, hin⟩
  have hw' := hw.symm
  subst hw'
  clear hw
  cases b0 with
  | false =>
    clear hin
    go_wp2_with fail
    go_ret
    exact ⟨rfl, Below.refl _ _⟩
  | true =>
  have HIN := hid (hin rfl)
  clear hin k32 k7 k8
  obtain ⟨vn, rfl⟩ : ∃ vn : Nat, v = (vn : Int) := ⟨v.toNat, by omega⟩
  have hvn : vn < n := by omega
  clear hv0 hv1
  go_wp2_with fail
  refine (dropsOK33 o3 c3 n ds w H3.out (by omega) HM3.out).mono ?_
  rintro e w0 ⟨⟨b0, rfl, hdin⟩, hb0⟩
  have HB0 := hid hb0
  clear hb0
  cases b0 with
  | false =>
    clear hdin
    go_wp2_with fail
    go_ret
    exact ⟨rfl, HB0.out⟩
  | true =>
  have HDI := hid (hdin rfl)
  have H10 := hid (H1.out.below HB0.out)
  have H20 := hid (H2.out.below HB0.out)
  have H30 := hid (H3.out.below HB0.out)
  clear hdin H1 H2 H3
  go_wp2_with fail
  refine (copyNext_any o1 n c1 A1 C1 Z w0 H10.out (by omega) HL1.out).mono ?_
  rintro e w1 ⟨oN, cN, AN, CN, rfl, _, hb1, hN1, _⟩
  have HB1 := hid (HB0.out.trans (hb1.mono HB0.out.size))
  have HN1 := hid hN1.at
  have H21 := hid (H20.out.below hb1)
  have H31 := hid (H30.out.below hb1)
  clear hb1 hN1 HB0 H10 H20 H30
  go_wp2_with fail
  refine (copyPairs_any o2 n2 c2 A2 L2 C2 Z2 w1 H21.out (by omega) HL2.out).mono ?_
  rintro e w2 ⟨oP, cP, AP, CP, rfl, _, hb2, hP2, _⟩
  have HB2 := hid (HB1.out.trans (hb2.mono HB1.out.size))
  have HN2 := hid (HN1.out.below hb2)
  have HP2 := hid hP2
  have H32 := hid (H31.out.below hb2)
  clear hb2 hP2 HB1 HN1 H21 H31
  go_wp2_with fail
  refine (copyInts_any o3 c3 ds w2 H32.out (by omega)).mono ?_
  rintro e w3 ⟨od, cd, rfl, _, hb3, hd3⟩
  have HB3 := hid (HB2.out.trans (hb3.mono HB2.out.size))
  have HN3 := hid (HN2.out.below hb3)
  have HP3 := hid (HP2.out.below hb3)
  have HD3 := hid hd3.at
  clear hb3 hd3 HB2 HN2 HP2 H32
  go_wp2_with fail
  refine (neigh_any oN n cN AN CN Z vn b w3 HN3.out (by omega) hvn HL1.out HIN.out).mono ?_
  obtain ⟨zf, hzf⟩ : ∃ z, z = nb b Z n vn := ⟨_, rfl⟩
  rw [← hzf]
  have HZF := hid hzf
  have hzfl : zf.length ≤ 1048576 := by rw [hzf]; exact nb_len b Z n vn (by omega) (HL1.out vn hvn)
  have HFI := hid (show ∀ x ∈ zf, 0 ≤ x ∧ x < n by rw [hzf]; exact nb_in b Z n vn hvn HIN.out)
  clear hzf
  rintro e w4 ⟨ow, cw, rfl, hb4, hw4⟩
  have HB4 := hid (HB3.out.trans (hb4.mono HB3.out.size))
  have HN4 := hid (HN3.out.below hb4)
  have HP4 := hid (HP3.out.below hb4)
  have HD4 := hid (HD3.out.below hb4)
  have HW4 := hid hw4.at
  clear hb4 hw4 HB3 HN3 HP3 HD3
  go_wp2_with fail
  refine (without35 ow od cw cd n zf ds w4 HW4.out HD4.out (by omega) hzfl (by omega) HFI.out HDI.out).mono ?_
  obtain ⟨zl, hzl⟩ : ∃ z, z = zf.filter fun x => !decide (x ∈ ds) := ⟨_, rfl⟩
  rw [← hzl]
  have HZL := hid hzl
  have hzll : zl.length ≤ 1048576 := by rw [hzl]; exact Nat.le_trans (List.length_filter_le _ _) hzfl
  clear hzl
  rintro e w4b ⟨oo, co, rfl, hb4b, hw4b⟩
  have HB4b := hid (HB4.out.trans (hb4b.mono HB4.out.size))
  have HN4b := hid (HN4.out.below hb4b)
  have HP4b := hid (HP4.out.below hb4b)
  have HD4b := hid (HD4.out.below hb4b)
  have HW4b := hid (HW4.out.below hb4b)
  have HO4b := hid hw4b.at
  clear hb4b hw4b HB4 HN4 HP4 HD4 HW4
  go_wp2_with fail
  refine (copyNext_any oN n cN AN CN Z w4b HN4b.out (by omega) HL1.out).mono ?_
  rintro e w5 ⟨oM, cM, AM, CM, rfl, _, hb5, hM5, _⟩
  have HB5 := hid (HB4b.out.trans (hb5.mono HB4b.out.size))
  have HM5 := hid hM5.at
  have HP5 := hid (HP4b.out.below hb5)
  have HW5 := hid (HW4b.out.below hb5)
  have HO5 := hid (HO4b.out.below hb5)
  have HD5 := hid (HD4b.out.below hb5)
  clear hb5 hM5 HB4b HN4b HP4b HW4b HO4b HD4b
  go_wp2_with fail
  refine (toPairs_any oP n2 cP AP L2 CP Z2 w5 (HP5.out.keep (fun _ _ _ => rfl) (fun _ _ _ => trivial)) (by omega) HL2.out).mono ?_
  rintro e w6 ⟨oQ, cQ, AQ, CQ, rfl, _, hb6, _, _⟩
  have HB6 := hid (HB5.out.trans (hb6.mono HB5.out.size))
  have HM6 := hid (HM5.out.below hb6)
  have HW6 := hid (HW5.out.below hb6)
  have HO6 := hid (HO5.out.below hb6)
  have HD6 := hid (HD5.out.below hb6)
  clear hb6 HB5 HM5 HP5 HW5 HO5 HD5
  go_wp2_with fail
  refine (new11 oM n cM AM CM Z oQ n2 cQ w6 HM6.out (by omega) HS1.out HIN.out).mono ?_
  rintro e w7 ⟨lb, gl, g0, g1, vg, ga, AGs, CGs, rfl, hb7, hll, hext, hown⟩
  obtain ⟨s, hs⟩ : ∃ s, s = St.mk lb gl g0 g1 n (.slice oM n cM) vg (.slice oQ n2 cQ) (fun _ => false) (fun _ => 0) (fun _ => 0) none 0 [] none 0 [] none 0 [] := ⟨_, rfl⟩
  obtain ⟨N, hN⟩ : ∃ N, N = Net.mk n oM cM AM CM Z (some ⟨ga, 0, none⟩) n AGs CGs (fun x => srcs Z x n) := ⟨_, rfl⟩
  rw [← hs] at hll hext hown
  rw [← hN] at hext
  have hslb : s.lb = lb := by rw [hs]
  have hNn : N.n = n := by rw [hN]
  have hsn : s.n = n := by rw [hs]
  have hNA : N.ZA = Z := by rw [hN]
  have hNG : N.ZG = fun x : Nat => srcs N.ZA x N.n := by rw [hN]
  have hd0 : s.drops [] s.o5 s.c5 = s := St.drops_nil s (by rw [hs]) (by rw [hs])
  have hw6 : w.heap.size ≤ w6.heap.size := HB6.out.size
  have R0 : Ready w.heap.size w w7 s N := ⟨hll, hext, by rw [hs]; exact ⟨rfl, rfl, rfl, rfl⟩, HB6.out.trans (hb7.mono hw6), Nat.le_trans hw6 hb7.size, fun k hk => Nat.le_trans hw6 (hown k hk)⟩
  have W7 : IntsP (fun b => ¬ s.has b) w7 ow zf := HW6.out.p.keep (fun b _ hl => hb7.block b hl) (fun b hb _ hc => by have := hown b hc; omega)
  have O7 : IntsP (fun b => ¬ s.has b) w7 oo zl := HO6.out.p.keep (fun b _ hl => hb7.block b hl) (fun b hb _ hc => by have := hown b hc; omega)
  have D7 : IntsP (fun b => ¬ s.has b) w7 od ds := HD6.out.p.keep (fun b _ hl => hb7.block b hl) (fun b hb _ hc => by have := hown b hc; omega)
  have HR0 := hid R0
  have HW7 := hid W7
  have HO7 := hid O7
  have HD7 := hid D7
  have HNN := hid hNn
  have HSN := hid hsn
  have HNA := hid hNA
  have HNG := hid hNG
  have HD0 := hid hd0
  have HWL := hid (show ∀ b, (N.list b vn).length ≤ 1048576 from fun b => list_len N b vn (by rw [hNn]; exact hvn) hNG (by rw [hNA, hNn]; exact HS1.out))
  have HWI := hid (show ∀ b, ∀ x ∈ N.list b vn, 0 ≤ x ∧ x < N.n from fun b => list_in N b vn (by rw [hNn]; exact hvn) hNG (by rw [hNA, hNn]; exact HIN.out))
  rw [← hslb]
  clear hll hext hown hs hN hNn hNA hNG hb7 R0 W7 O7 D7 HB6 HM6 HW6 HO6 HD6 hslb hsn hd0
  go_wp2_with fail
  refine (isNil13 _ w7).mono ?_
  rintro e w' ⟨rfl, hw⟩
  have hw' := hw.symm
  subst hw'
  clear hw
  go_wp2_with fail
  go_loopw [15] (fun i wr => ∃ (k : Nat) (o5 : Option Addr) (c5 : Nat), k ≤ ds.length ∧ i = .int .i64 k ∧ Ready w.heap.size w wr (s.drops (ds.take k) o5 c5) N ∧ Moved w7 wr s (s.drops (ds.take k) o5 c5)) (fun i _ => ds.length - (intOf i).toNat)
  case atStart => exact ⟨0, s.o5, s.c5, Nat.zero_le _, rfl, by rw [List.take_zero, HD0.out]; exact HR0.out, by rw [List.take_zero, HD0.out]; exact Moved.refl _ _⟩
  case round =>
  obtain ⟨k, o5, c5, hk, rfl, hrd, hmd⟩ := hrel
  have HRD := hid hrd
  have HMD := hid hmd
  clear hrd hmd
  by_cases hlt : k < ds.length
  · rcases (HMD.out.ints HD7.out).at with h0 | ⟨bd, offd, hod, hcd⟩
    · simp [h0] at hlt
    obtain ⟨x, hx⟩ : ∃ x : Nat, (x : Int) = ds.getD k 0 := by
      have := HDI.out (ds.getD k 0) (by simp [List.getD, hlt])
      exact ⟨(ds.getD k 0).toNat, by omega⟩
    have hxn : x < n := by
      have := HDI.out (ds.getD k 0) (by simp [List.getD, hlt]); omega
    have ce : wr.cell? ⟨bd, offd + k, none⟩ = some (.int .i64 (x : Int)) := by rw [hx]; exact hcd k hlt
    have KD : Calls Try.prog 36 #[.pointer (some ⟨s.lb, 0, none⟩), .int .i64 x] wr (DroppedNow (s.drops (ds.take k) o5 c5) x wr) :=
      drop36 (s.drops (ds.take k) o5 c5) x wr HRD.out.ll (by show x < s.n; rw [HSN.out]; exact hxn) (by
        show (ds.take k).length ≤ _
        rw [List.length_take]; omega)
    have HKD := hid KD
    have HX := hid hx
    subst hod
    clear hcd hx KD
    go_wp2_with fail
    refine HKD.out.mono ?_
    rintro e w1 ⟨rfl, o', c', hll, hmo⟩
    rw [St.drops_step, HX.out, ← take_snoc ds k hlt] at hll hmo
    have HR1 := hid (HRD.out.drop hmo hll (drops_clean HR0.out.clean _ _ _) rfl rfl rfl)
    have HM1 := hid (HMD.out.trans hmo)
    clear hll hmo HKD
    go_wp2
    go_roundw
    case rel => exact ⟨k + 1, o', c', by omega, by go_num, HR1.out, HM1.out⟩
    case measure => simp [intOf]; omega
  have hke : ds.take k = ds := List.take_of_length_le (by omega)
  rw [hke] at HRD HMD
  obtain ⟨s1, hs1⟩ : ∃ x, x = s.drops ds o5 c5 := ⟨_, rfl⟩
  rw [← hs1] at HRD HMD
  have HR1 := hid HRD.out
  have HW7b := hid (HMD.out.ints HW7.out)
  have HO7b := hid (HMD.out.ints HO7.out)
  have HLF1 := hid (show s1.left = fun i : Nat => decide ((i : Int) ∈ ds) by rw [hs1]; rfl)
  have HDR1 := hid (show s1.dr = ds by rw [hs1]; rfl)
  have HSN1 := hid (show s1.n = n by rw [hs1]; exact HSN.out)
  have hlb1 : s.lb = s1.lb := by rw [hs1]; rfl
  rename World => w7b
  rw [hlb1]
  clear hke hs1 hlb1 HRD HMD HW7 HO7 HD7 HR0 HSN HD0
  go_wp2_with fail
  have K1 : Calls Try.prog 29 #[.pointer (some ⟨s1.lb, 0, none⟩), .int .i64 n, .int .i64 vn, .bool b] w7b (Walked s1 zl w7b) := by
    have := walk_any s1 N b vn w7b HR1.out.ll HR1.out.ext HR1.out.clean (by rw [HNN.out]; exact hvn) (HWL.out b) (HWI.out b) (by rw [HNN.out]; omega)
    rw [walk_drops N s1 b N.n vn ds HLF1.out HNG.out (HWI.out b), HNA.out, HNN.out, ← HZF.out, ← HZL.out] at this
    exact this
  refine K1.mono ?_
  clear K1
  rintro e w8 ⟨oq1, cq1, t1, rfl, hll, hmo, hseq, elb, en, hlo, hmv, hl4, hl8, p4, d4, p8, d8, hres⟩
  have HLL1 := hid hll
  have HMO1 := hid hmo
  have HSQ1 := hid hseq
  have HRS1 := hid (And.intro elb (And.intro en (And.intro hlo (And.intro hmv (And.intro hl4 (And.intro hl8 hres))))))
  clear hll hmo hseq elb en hlo hmv hl4 hl8 hres
  go_wp2_with fail
  refine (sameInts_any oq1 oo cq1 co zl w8 HSQ1.out.at (HMO1.out.ints HO7b.out).at hzll).mono ?_
  rintro e w9 ⟨rfl, hbs, _⟩
  have HBS1 := hid hbs
  clear hbs
  go_wp2_with fail
  have Q1 : Calls Try.prog 31 #[.pointer (some ⟨s1.lb, 0, none⟩)] w9 (Restored t1 w9) := by
    obtain ⟨elb, en, hlo, hmv, hl4, hl8, hres⟩ := HRS1.out
    have e1 : t1.lb = s1.lb := elb
    rw [← e1]
    exact restore31 t1 w9 (HLL1.out.belowAll HBS1.out) (by rw [en]; exact hlo) (by rw [en]; exact hmv) hl4 hl8
  refine Q1.mono ?_
  clear Q1
  rintro e w10 ⟨rfl, hll, hmo⟩
  obtain ⟨s2, hs2⟩ : ∃ x, x = s1.with48 p4 d4 p8 d8 := ⟨_, rfl⟩
  have AG1 := HR1.out.again HMO1.out HBS1.out hmo hll (HRS1.out.2.2.2.2.2.2.trans hs2.symm) (by rw [hs2]; exact HR1.out.clean.with48 _ _ _ _) (by rw [hs2]; rfl) (by rw [hs2]; rfl) (by rw [hs2]; rfl)
  have HR2 := hid AG1.1
  have HW10 := hid (AG1.2.ints HW7b.out)
  have HO10 := hid (AG1.2.ints HO7b.out)
  have HLF2 := hid (show s2.left = fun i : Nat => decide ((i : Int) ∈ ds) by rw [hs2]; exact HLF1.out)
  have HDR2 := hid (show s2.dr = ds by rw [hs2]; exact HDR1.out)
  have HSN2 := hid (show s2.n = n by rw [hs2]; exact HSN1.out)
  have HLB2 := hid (show s2.lb = s1.lb by rw [hs2]; rfl)
  clear AG1 hll hmo hs2 HR1 HLL1 HMO1 HSQ1 HRS1 HBS1 HW7b HO7b HLF1 HDR1 HSN1
  rw [show s1.lb = s2.lb from HLB2.out.symm]
  clear HLB2
  go_wp2_with fail
  have K2 : Calls Try.prog 29 #[.pointer (some ⟨s2.lb, 0, none⟩), .int .i64 n, .int .i64 vn, .bool b] w10 (Walked s2 zl w10) := by
    have := walk_any s2 N b vn w10 HR2.out.ll HR2.out.ext HR2.out.clean (by rw [HNN.out]; exact hvn) (HWL.out b) (HWI.out b) (by rw [HNN.out]; omega)
    rw [walk_drops N s2 b N.n vn ds HLF2.out HNG.out (HWI.out b), HNA.out, HNN.out, ← HZF.out, ← HZL.out] at this
    exact this
  refine K2.mono ?_
  clear K2
  rintro e w11 ⟨oq2, cq2, t2, rfl, hll, hmo, hseq, elb, en, hlo, hmv, hl4, hl8, p4, d4, p8, d8, hres⟩
  have HLL2 := hid hll
  have HMO2 := hid hmo
  have HSQ2 := hid hseq
  have HRS2 := hid (And.intro elb (And.intro en (And.intro hlo (And.intro hmv (And.intro hl4 (And.intro hl8 hres))))))
  clear hll hmo hseq elb en hlo hmv hl4 hl8 hres
  go_wp2_with fail
  refine (sameInts_any oq2 oo cq2 co zl w11 HSQ2.out.at (HMO2.out.ints HO10.out).at hzll).mono ?_
  rintro e w12 ⟨rfl, hbs, _⟩
  have HBS2 := hid hbs
  clear hbs
  go_wp2_with fail
  have Q2 : Calls Try.prog 31 #[.pointer (some ⟨s2.lb, 0, none⟩)] w12 (Restored t2 w12) := by
    obtain ⟨elb, en, hlo, hmv, hl4, hl8, hres⟩ := HRS2.out
    have e1 : t2.lb = s2.lb := elb
    rw [← e1]
    exact restore31 t2 w12 (HLL2.out.belowAll HBS2.out) (by rw [en]; exact hlo) (by rw [en]; exact hmv) hl4 hl8
  refine Q2.mono ?_
  clear Q2
  rintro e w13 ⟨rfl, hll, hmo⟩
  obtain ⟨s3, hs2⟩ : ∃ x, x = s2.with48 p4 d4 p8 d8 := ⟨_, rfl⟩
  have AG2 := HR2.out.again HMO2.out HBS2.out hmo hll (HRS2.out.2.2.2.2.2.2.trans hs2.symm) (by rw [hs2]; exact HR2.out.clean.with48 _ _ _ _) (by rw [hs2]; rfl) (by rw [hs2]; rfl) (by rw [hs2]; rfl)
  have HR3 := hid AG2.1
  have HW13 := hid (AG2.2.ints HW10.out)
  have HLF3 := hid (show s3.left = fun i : Nat => decide ((i : Int) ∈ ds) by rw [hs2]; exact HLF2.out)
  have HDR3 := hid (show s3.dr = ds by rw [hs2]; exact HDR2.out)
  have HSN3 := hid (show s3.n = n by rw [hs2]; exact HSN2.out)
  have HLB3 := hid (show s3.lb = s2.lb by rw [hs2]; rfl)
  clear AG2 hll hmo hs2 HR2 HLL2 HMO2 HSQ2 HRS2 HBS2 HW10 HO10 HLF2 HDR2 HSN2
  rw [show s2.lb = s3.lb from HLB3.out.symm]
  clear HLB3
  go_wp2_with fail
  have QR : Calls Try.prog 37 #[.pointer (some ⟨s3.lb, 0, none⟩)] w13 (Reinstated s3 w13) :=
    reinstate37 s3 w13 HR3.out.ll (by rw [HDR3.out, HSN3.out]; exact HDI.out) (by rw [HDR3.out]; omega)
  refine QR.mono ?_
  clear QR
  rintro e w14 ⟨rfl, hll, hmo⟩
  obtain ⟨s4, hs4⟩ : ∃ x, x = s3.reinst := ⟨_, rfl⟩
  rw [← hs4] at hll hmo
  have HR4 := hid (HR3.out.drop hmo hll (by rw [hs4]; exact ⟨HR3.out.clean.lo, HR3.out.clean.mv, HR3.out.clean.f0, HR3.out.clean.f1⟩) (by rw [hs4]; rfl) (by rw [hs4]; rfl) (by rw [hs4]; rfl))
  have HW14 := hid (hmo.ints HW13.out)
  have HLF4 := hid (show s4.left = fun _ => false by
    rw [hs4]
    show (fun i : Nat => if (i : Int) ∈ s3.dr then false else s3.left i) = _
    rw [HDR3.out, HLF3.out]
    funext i
    by_cases h : (i : Int) ∈ ds <;> simp [h])
  have HLB4 := hid (show s4.lb = s3.lb by rw [hs4]; rfl)
  clear hll hmo hs4 HR3 HW13 HLF3 HDR3 HSN3
  rw [show s3.lb = s4.lb from HLB4.out.symm]
  clear HLB4
  go_wp2_with fail
  have K4 : Calls Try.prog 29 #[.pointer (some ⟨s4.lb, 0, none⟩), .int .i64 n, .int .i64 vn, .bool b] w14 (Walked s4 zf w14) := by
    have := walk_any s4 N b vn w14 HR4.out.ll HR4.out.ext HR4.out.clean (by rw [HNN.out]; exact hvn) (HWL.out b) (HWI.out b) (by rw [HNN.out]; omega)
    rw [walk_nb N s4 b N.n vn HLF4.out HNG.out, HNA.out, HNN.out, ← HZF.out] at this
    exact this
  refine K4.mono ?_
  clear K4
  rintro e w15 ⟨oq4, cq4, t4, rfl, hll, hmo, hseq, elb, en, hlo, hmv, hl4, hl8, p4, d4, p8, d8, hres⟩
  have HLL4 := hid hll
  have HMO4 := hid hmo
  have HSQ4 := hid hseq
  have HRS4 := hid (And.intro elb (And.intro en (And.intro hlo (And.intro hmv (And.intro hl4 (And.intro hl8 hres))))))
  clear hll hmo hseq elb en hlo hmv hl4 hl8 hres
  go_wp2_with fail
  refine (sameInts_any oq4 ow cq4 cw zf w15 HSQ4.out.at (HMO4.out.ints HW14.out).at hzfl).mono ?_
  rintro e w16 ⟨rfl, hbs, _⟩
  have HBS4 := hid hbs
  clear hbs
  go_wp2
  go_ret
  refine ⟨rfl, ?_⟩
  have m := HMO4.out
  exact (m.below HR4.out.below HR4.out.size HR4.out.own).trans (HBS4.out.mono (Nat.le_trans HR4.out.size m.size))
end Go.Proofs.Qxb6617182a
