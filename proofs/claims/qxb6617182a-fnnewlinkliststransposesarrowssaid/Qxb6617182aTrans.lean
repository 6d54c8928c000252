import Derived.Test.Qxb6617182aSort
import Derived.Test.Qxb6617182aSamePairs
namespace Go.Proofs.Qxb6617182a
open Go.RowKit Go.Deep

theorem arrs_fst (Z : Nat → List Int) (k : Nat) : (arrs Z k).map Prod.fst = flat Z k := by
  induction k with
  | zero => rfl
  | succ k ih => simp [arrs, flat, ih, Function.comp_def]

/-- The arrows of the first k rows and the first j of row k. -/
def arrsIn (Z : Nat → List Int) (k j : Nat) : List (Int × Int) := arrs Z k ++ ((Z k).take j).map fun x => (x, (k : Int))

theorem arrsIn_snoc (Z : Nat → List Int) (k j : Nat) (h : j < (Z k).length) : arrsIn Z k (j + 1) = arrsIn Z k j ++ [((Z k).getD j 0, (k : Int))] := by
  unfold arrsIn
  rw [take_snoc _ _ h, List.map_append, List.append_assoc]
  rfl

theorem arrsIn_zero (Z : Nat → List Int) (k : Nat) : arrsIn Z k 0 = arrs Z k := by simp [arrsIn]
theorem arrsIn_all (Z : Nat → List Int) (k j : Nat) (h : (Z k).length ≤ j) : arrsIn Z k j = arrs Z (k + 1) := by
  unfold arrsIn; rw [List.take_of_length_le h]; rfl

/-- Two slices that the call builds side by side. -/
structure TwoAt (B : Nat) (w wr : World) (ot : Option Addr) (ct : Nat) (of : Option Addr) (cf : Nat) (Q F : List Int) : Prop where
  below : Below B w wr
  size : B ≤ wr.heap.size
  o1 : OwnInts wr ot ct Q
  o2 : OwnInts wr of cf F
  b1 : ∀ g, ot = some ⟨g, 0, none⟩ → B ≤ g
  b2 : ∀ g, of = some ⟨g, 0, none⟩ → B ≤ g
  ne : ∀ g, ot = some ⟨g, 0, none⟩ → of ≠ some ⟨g, 0, none⟩

theorem OwnInts.row {w : World} {o : Option Addr} {c : Nat} {xs : List Int} (h : OwnInts w o c xs) : ∀ k, o.map Addr.block = some k → o = some ⟨k, 0, none⟩ ∧ k < w.heap.size := by
  intro k hk
  rcases h.form with ⟨e, _, _⟩ | ⟨g, e, hl, _⟩
  · rw [e] at hk; simp at hk
  · rw [e] at hk; simp at hk; subst hk; exact ⟨e, hl⟩

theorem OwnInts.lt {w : World} {o : Option Addr} {c : Nat} {xs : List Int} (h : OwnInts w o c xs) {g : Nat} (hg : o = some ⟨g, 0, none⟩) : g < w.heap.size := by
  rcases h.form with ⟨e, _, _⟩ | ⟨g', e, hl, _⟩
  · rw [e] at hg; cases hg
  · rw [e] at hg; simp at hg; omega

theorem TwoAt.first {B : Nat} {w wr w1 : World} {ot of : Option Addr} {ct cf g c' : Nat} {Q F : List Int} {x : Int} (h : TwoAt B w wr ot ct of cf Q F)
    (ho : OwnInts w1 (some ⟨g, 0, none⟩) c' (Q ++ [x])) (hg : wr.grownBy w1 (ot.map Addr.block)) (hn : ot = some ⟨g, 0, none⟩ ∨ wr.heap.size < g) : TwoAt B w w1 (some ⟨g, 0, none⟩) c' of cf (Q ++ [x]) F := by
  have hs := h.size
  refine ⟨h.below.grown hg hs fun k hk => h.b1 k (h.o1.row k hk).1, Nat.le_trans hs hg.size, ho, h.o2.keep fun g2 hg2 hl => hg.block g2 hl fun e => ?_, fun g' hg' => ?_, h.b2, fun g' hg' => ?_⟩
  · exact h.ne g2 (h.o1.row g2 e.symm).1 hg2
  · simp at hg'; subst hg'
    rcases hn with hn | hn
    · exact h.b1 g hn
    · omega
  · simp at hg'; subst hg'
    rcases hn with hn | hn
    · exact h.ne g hn
    · intro e; have := h.o2.lt e; omega

theorem TwoAt.second {B : Nat} {w wr w1 : World} {ot of : Option Addr} {ct cf g c' : Nat} {Q F : List Int} {y : Int} (h : TwoAt B w wr ot ct of cf Q F)
    (ho : OwnInts w1 (some ⟨g, 0, none⟩) c' (F ++ [y])) (hg : wr.grownBy w1 (of.map Addr.block)) (hn : of = some ⟨g, 0, none⟩ ∨ wr.heap.size < g) : TwoAt B w w1 ot ct (some ⟨g, 0, none⟩) c' Q (F ++ [y]) := by
  have hs := h.size
  refine ⟨h.below.grown hg hs fun k hk => h.b2 k (h.o2.row k hk).1, Nat.le_trans hs hg.size, h.o1.keep fun g2 hg2 hl => hg.block g2 hl fun e => ?_, ho, h.b1, fun g' hg' => ?_, fun g' hg' e => ?_⟩
  · exact h.ne g2 hg2 (h.o2.row g2 e.symm).1
  · simp at hg'; subst hg'
    rcases hn with hn | hn
    · exact h.b2 g hn
    · omega
  · simp at e; subst e
    rcases hn with hn | hn
    · exact h.ne g hg' hn
    · have := h.o1.lt hg'; omega

theorem outs_get (Z : Nat → List Int) (n u t : Nat) (ht : t < (srcs Z u n).length) : ∀ m, u < m → (outs Z n u).length + t < (outs Z n m).length ∧ (outs Z n m).getD ((outs Z n u).length + t) (0, 0) = ((u : Int), (srcs Z u n).getD t 0) := by
  intro m
  induction m with
  | zero => intro h; omega
  | succ m ih =>
    intro h
    by_cases e : u = m
    · subst e
      refine ⟨by simp only [outs, List.length_append, List.length_map]; omega, ?_⟩
      simp only [outs, List.getD]
      rw [List.getElem?_append_right (by omega), Nat.add_sub_cancel_left]
      simp [ht]
    · obtain ⟨h1, h2⟩ := ih (by omega)
      refine ⟨by simp only [outs, List.length_append]; omega, ?_⟩
      simp only [outs, List.getD] at h2 ⊢
      rw [List.getElem?_append_left h1]
      exact h2

theorem outs_len_mono (Z : Nat → List Int) (n : Nat) {u m : Nat} (h : u ≤ m) : (outs Z n u).length ≤ (outs Z n m).length := by
  induction h with
  | refl => exact Nat.le_refl _
  | step _ ih => simp only [outs, List.length_append]; omega

/-- What stands behind list u leads to later nodes. -/
theorem outs_after (Z : Nat → List Int) (n u : Nat) : ∀ m, u ≤ m → ∀ k, (outs Z n u).length ≤ k → k < (outs Z n m).length → (u : Int) ≤ ((outs Z n m).getD k (0, 0)).1 := by
  intro m hm
  induction hm with
  | refl => intro k h1 h2; omega
  | step hm ih =>
    rename_i m
    intro k h1 h2
    by_cases hk : k < (outs Z n m).length
    · have := ih k h1 hk
      simp only [outs, List.getD] at this ⊢
      rw [List.getElem?_append_left hk]
      exact this
    · simp only [outs, List.getD]
      rw [List.getElem?_append_right (by omega)]
      simp only [outs, List.length_append, List.length_map] at h2
      rw [List.getElem?_map, List.getElem?_eq_getElem (by omega)]
      have : u ≤ m := hm
      show (u : Int) ≤ (m : Int)
      omega

theorem map_getD1 (R : List (Int × Int)) (k : Nat) (h : k < R.length) : (R.map Prod.fst).getD k 0 = (R.getD k (0, 0)).1 := by simp [List.getD, h]
theorem map_getD2 (R : List (Int × Int)) (k : Nat) (h : k < R.length) : (R.map Prod.snd).getD k 0 = (R.getD k (0, 0)).2 := by simp [List.getD, h]

set_option maxHeartbeats 4000000 in
set_option maxRecDepth 20000 in
theorem trans18 (o1 o2 : Option Addr) (n c1 c2 : Nat) (A1 A2 : Nat → Option Addr) (C1 C2 : Nat → Nat) (Z : Nat → List Int) (w : World) (h1 : MatAt w o1 n A1 C1 (fun x => srcs Z x n)) (h2 : MatAt w o2 n A2 C2 Z)
    (hn : n ≤ 131072) (hs : sumTo (fun r => (Z r).length) n ≤ 131072) (hin : ∀ r, r < n → ∀ x ∈ Z r, 0 ≤ x ∧ x < n) :
    Calls Try.prog 18 #[.slice o1 n c1, .slice o2 n c2] w (RetTrueB w) := by
  have H1 := hid h1
  have H2 := hid h2
  have HI := hid hin
  have HSum := hid hs
  clear h1 h2 hin hs
  go_enter Try.func18, Try.ntmps18
  go_wp2
  go_loopw [6, 7, 8] (fun xt xf xv wr => ∃ (k : Nat) (ot : Option Addr) (ct : Nat) (of : Option Addr) (cf : Nat) (T F : List Int), k ≤ n ∧ xv = .int .i64 k ∧ xt = .slice ot T.length ct ∧ xf = .slice of F.length cf ∧
      T = (arrs Z k).map Prod.fst ∧ F = (arrs Z k).map Prod.snd ∧ TwoAt w.heap.size w wr ot ct of cf T F) (fun _ _ v _ => n - (intOf v).toNat)
  case atStart => exact ⟨0, none, 0, none, 0, [], [], Nat.zero_le _, rfl, rfl, rfl, rfl, rfl, Below.refl _ _, Nat.le_refl _, OwnInts.nil _, OwnInts.nil _, (fun g hg => by cases hg), (fun g hg => by cases hg), (fun g hg => by cases hg)⟩
  case round =>
    obtain ⟨k, ot, ct, of, cf, T, F, hk, rfl, rfl, rfl, hT, hF, htw⟩ := hrel
    have HT := hid hT
    have HF := hid hF
    have HTW := hid htw
    clear hT hF htw
    by_cases hlt : k < n
    · rcases H2.out.1 with h0 | ⟨b2, off2, ho2, hc2⟩
      · omega
      have hck : w.cell? ⟨b2, off2 + k, none⟩ = some (.slice (A2 k) (Z k).length (C2 k)) := hc2 k hlt
      have hcell : wr.cell? ⟨b2, off2 + k, none⟩ = some (.slice (A2 k) (Z k).length (C2 k)) := (HTW.out.below.cell (World.block_lt_of_cell? w _ hck)).trans hck
      have hzl : (Z k).length ≤ 131072 := Nat.le_trans (sumTo_ge (fun r => (Z r).length) hlt) HSum.out
      have HRW := hid (H2.out.2 k hlt)
      obtain ⟨av, hav⟩ : ∃ a, a = A2 k := ⟨_, rfl⟩
      rw [← hav] at hcell HRW
      subst ho2
      clear hc2 hck hav
      rename World => wo
      go_wp2
      go_loopw [6, 7, 10] (fun xt xf xj wr => ∃ (j : Nat) (ot : Option Addr) (ct : Nat) (of : Option Addr) (cf : Nat) (T F : List Int), j ≤ (Z k).length ∧ xj = .int .i64 j ∧ xt = .slice ot T.length ct ∧ xf = .slice of F.length cf ∧
          T = (arrsIn Z k j).map Prod.fst ∧ F = (arrsIn Z k j).map Prod.snd ∧ TwoAt w.heap.size w wr ot ct of cf T F) (fun _ _ j _ => (Z k).length - (intOf j).toNat)
      case atStart => exact ⟨0, ot, ct, of, cf, T, F, Nat.zero_le _, rfl, rfl, rfl, by rw [arrsIn_zero]; exact HT.out, by rw [arrsIn_zero]; exact HF.out, HTW.out⟩
      case round =>
        obtain ⟨j, ot, ct, of, cf, T, F, hj, rfl, rfl, rfl, hT, hF, htw⟩ := hrel
        by_cases hlt2 : j < (Z k).length
        · rcases HRW.out with hz | ⟨b3, off3, ho3, hc3⟩
          · simp [hz] at hlt2
          obtain ⟨x, hx⟩ : ∃ x, x = (Z k).getD j 0 := ⟨_, rfl⟩
          have ce : wr.cell? ⟨b3, off3 + j, none⟩ = some (.int .i64 x) := by rw [hx]; exact (htw.below.cell (World.block_lt_of_cell? w _ (hc3 j hlt2))).trans (hc3 j hlt2)
          have hTl : T.length ≤ 131072 := by
            rw [hT, List.length_map]
            have e1 : (arrsIn Z k j).length ≤ (arrs Z (k + 1)).length := by
              unfold arrsIn; rw [arrs]; simp
              omega
            rw [arrs_length, flat_length] at e1
            exact Nat.le_trans e1 (Nat.le_trans (sumTo_mono _ hlt) HSum.out)
          have hFl : F.length ≤ 131072 := by rw [hF, List.length_map, ← List.length_map (f := Prod.fst), ← hT]; exact hTl
          have HSN := hid (arrsIn_snoc Z k j hlt2)
          rw [← hx] at HSN
          have hown := htw.o1
          have HTW2 := hid htw
          have HT2 := hid hT
          have HF2 := hid hF
          subst ho3
          clear hc3 hT hF htw hx
          go_wp2_with (at_builtin; refine wp_append1 _ rfl (.tmp 37) (.tmp 42) rfl ot ct T x rfl rfl rfl hown (by omega) ?_)
          intro g c' w1 ho1 hg1 hn1
          have tw1 := HTW2.out.first ho1 hg1 hn1
          have hown2 := tw1.o2
          have TW1 := hid tw1
          clear ho1 hg1 hn1 tw1 hown
          go_wp2_with (at_builtin; refine wp_append1 _ rfl (.tmp 44) (.tmp 46) rfl of cf F k rfl rfl rfl hown2 (by omega) ?_)
          intro g2 c2' w2 ho2 hg2 hn2
          have TW2 := hid (TW1.out.second ho2 hg2 hn2)
          clear ho2 hg2 hn2 hown2
          go_wp2
          go_roundw
          case rel => exact ⟨j + 1, some ⟨g, 0, none⟩, c', some ⟨g2, 0, none⟩, c2', T ++ [x], F ++ [(k : Int)], by omega, by go_num, by simp, by simp, by rw [HSN.out, List.map_append, ← HT2.out]; rfl, by rw [HSN.out, List.map_append, ← HF2.out]; rfl, TW2.out⟩
          case measure => simp [intOf]; omega
        · have HTW2 := hid htw
          have HT2 := hid hT
          have HF2 := hid hF
          clear hT hF htw
          go_wp2
          go_roundw
          case rel => exact ⟨k + 1, ot, ct, of, cf, T, F, by omega, by go_num, rfl, rfl, by rw [HT2.out, arrsIn_all Z k j (by omega)], by rw [HF2.out, arrsIn_all Z k j (by omega)], HTW2.out⟩
          case measure => simp [intOf]; omega
    · obtain rfl : k = n := by omega
      have hTl : T.length = (arrs Z k).length := by rw [HT.out, List.length_map]
      have hFl : F.length = (arrs Z k).length := by rw [HF.out, List.length_map]
      have harl : (arrs Z k).length ≤ 131072 := by rw [arrs_length, flat_length]; exact HSum.out
      have KS : Calls Try.prog 39 #[.slice ot T.length ct, .slice of F.length cf] wr (Sorted39 ot ct of cf (arrs Z k) wr) := by
        rw [hTl, hFl]
        exact sort39 ot ct of cf (arrs Z k) wr (by rw [← HT.out]; exact HTW.out.o1) (by rw [← HF.out]; exact HTW.out.o2) HTW.out.ne harl
      have HKS := hid KS
      have HTL := hid hTl
      have hTb : T.length ≤ 131072 := by omega
      have hFT1 : F.length ≤ T.length := by omega
      have hFT2 : T.length ≤ F.length := by omega
      clear KS hTl hFl harl
      go_wp2_with fail
      refine HKS.out.mono ?_
      rintro e w2 ⟨rfl, P', hp, hsrt, ho1, ho2, hon⟩
      have hP : P' = outs Z k k := sorted_eq (hp.trans (arrs_perm_outs Z k HI.out)) hsrt (outs_sorted Z k k).1
      subst hP
      have hlen : (outs Z k k).length = T.length := by rw [HTL.out]; exact hp.length_eq
      have hbw2 : Below w.heap.size w w2 := by
        refine hon.below HTW.out.below (fun b hb => ?_) HTW.out.size
        rcases hb with hb | hb
        · exact HTW.out.b1 b hb
        · exact HTW.out.b2 b hb
      obtain ⟨R, hR⟩ : ∃ R, R = outs Z k k := ⟨_, rfl⟩
      rw [← hR] at ho1 ho2 hlen
      have HR := hid hR
      have HO1 := hid ho1.at
      have HO2 := hid ho2.at
      have HLN := hid hlen
      have HB2 := hid hbw2
      clear hp hsrt ho1 ho2 hon hR hlen hbw2 HKS HT HF HTW
      go_wp2
      rename World => wm
      go_loopw [12, 13] (fun xk xu wr => ∃ (u q : Nat), u ≤ k ∧ xu = .int .i64 u ∧ xk = .int .i64 ((outs Z k u).length : Nat) ∧ wr = wm.drewN q) (fun _ u _ => k - (intOf u).toNat)
      case atStart => exact ⟨0, 0, Nat.zero_le _, rfl, rfl, rfl⟩
      case round =>
        obtain ⟨u, q, hu, rfl, rfl, hwr⟩ := hrel
        have HW := hid hwr
        have hbm : Below wm.heap.size wm wr := by rw [hwr]; exact ⟨rfl, rfl, rfl, Nat.le_refl _, fun _ _ => rfl⟩
        have hbw : Below w.heap.size w wr := HB2.out.trans (hbm.mono HB2.out.size)
        have HBM := hid hbm
        have HBWR := hid hbw
        clear hwr hbm hbw
        obtain ⟨K0, hK0⟩ : ∃ x, x = (outs Z k u).length := ⟨_, rfl⟩
        rw [← hK0]
        have HK0 := hid hK0
        clear hK0
        by_cases hlt2 : u < k
        · rcases H1.out.1 with h0 | ⟨b1, off1, ho1, hc1⟩
          · omega
          have hck : w.cell? ⟨b1, off1 + u, none⟩ = some (.slice (A1 u) (srcs Z u k).length (C1 u)) := hc1 u hlt2
          have hcell : wr.cell? ⟨b1, off1 + u, none⟩ = some (.slice (A1 u) (srcs Z u k).length (C1 u)) := (HBWR.out.cell (World.block_lt_of_cell? w _ hck)).trans hck
          have HRW := hid (H1.out.2 u hlt2)
          have HGET := hid (show ∀ t, t < (srcs Z u k).length → K0 + t < R.length ∧ R.getD (K0 + t) (0, 0) = ((u : Int), (srcs Z u k).getD t 0) from fun t ht => by
            rw [HR.out, HK0.out]; exact outs_get Z k u t ht k hlt2)
          have HNX := hid (show (outs Z k (u + 1)).length = K0 + (srcs Z u k).length by rw [HK0.out]; simp [outs])
          have HAF := hid (show ∀ kk, kk = K0 + (srcs Z u k).length → kk < R.length → (u : Int) < (R.getD kk (0, 0)).1 from fun kk e h => by
            have := outs_after Z k (u + 1) k hlt2 kk (by rw [e, HNX.out]; exact Nat.le_refl _) (by rw [← HR.out]; exact h)
            rw [← HR.out] at this; omega)
          have hsl : (srcs Z u k).length ≤ 131072 := by
            have h1 : (srcs Z u k).length ≤ (flat Z k).length := by rw [srcs_length]; exact List.count_le_length
            rw [flat_length] at h1
            exact Nat.le_trans h1 HSum.out
          have hk0b : K0 + (srcs Z u k).length ≤ T.length := by
            have := outs_len_mono Z k (show u + 1 ≤ k from hlt2)
            rw [← HNX.out, ← HLN.out, HR.out]; exact this
          obtain ⟨av, hav⟩ : ∃ a, a = A1 u := ⟨_, rfl⟩
          obtain ⟨zs, hzs⟩ : ∃ a, a = srcs Z u k := ⟨_, rfl⟩
          have HRW' : Hid (IntsAt w av zs) := by rw [hav, hzs]; exact HRW.out
          rw [← hav, ← hzs] at hcell
          rw [← hzs] at HGET HNX HAF hsl hk0b
          subst ho1
          clear hc1 hck hav hzs HRW
          rename World => wo
          go_wp2
          go_loopw [12, 15] (fun xk xt wr => ∃ (t kk q : Nat), t ≤ zs.length ∧ xt = .int .i64 t ∧ xk = .int .i64 kk ∧ kk = K0 + t ∧ wr = wo.drewN q) (fun _ t _ => zs.length - (intOf t).toNat)
          case atStart => exact ⟨0, K0, 0, Nat.zero_le _, rfl, rfl, rfl, rfl⟩
          case round =>
            obtain ⟨t, kk, q2, ht, rfl, rfl, hkk, hwr2⟩ := hrel
            have hk1 : kk ≤ K0 + t := by omega
            have hk2 : K0 + t ≤ kk := by omega
            have hbo : Below wo.heap.size wo wr := by rw [hwr2]; exact ⟨rfl, rfl, rfl, Nat.le_refl _, fun _ _ => rfl⟩
            have hbm3 : Below wm.heap.size wm wr := HBM.out.trans (hbo.mono HBM.out.size)
            have hbw3 : Below w.heap.size w wr := HBWR.out.trans (hbo.mono HBWR.out.size)
            have HWO := hid hwr2
            have HKK := hid hkk
            have HIT := hid (HO1.out.below hbm3)
            have HIF := hid (HO2.out.below hbm3)
            have HIR := hid (HRW'.out.below hbw3)
            clear hwr2 hkk hbo hbm3 hbw3 hcell
            by_cases hlt3 : t < zs.length
            · obtain ⟨hgl, hgg⟩ := HGET.out t hlt3
              rcases HIT.out with hz | ⟨bt, offt, hot, hct⟩
              · have := congrArg List.length hz; rw [List.length_map, List.length_nil] at this; omega
              rcases HIF.out with hz | ⟨bf, offf, hof, hcf⟩
              · have := congrArg List.length hz; rw [List.length_map, List.length_nil] at this; omega
              rcases HIR.out with hz | ⟨br, offr, hor, hcr⟩
              · simp [hz] at hlt3
              obtain ⟨y, hy⟩ : ∃ y, y = zs.getD t 0 := ⟨_, rfl⟩
              have ct1 : wr.cell? ⟨bt, offt + kk, none⟩ = some (.int .i64 (u : Int)) := by
                rw [hct kk (by simp; omega), map_getD1 R kk (by omega), HKK.out, hgg]
              have cf1 : wr.cell? ⟨bf, offf + kk, none⟩ = some (.int .i64 y) := by
                rw [hcf kk (by simp; omega), map_getD2 R kk (by omega), HKK.out, hgg, hy]
              have cr1 : wr.cell? ⟨br, offr + t, none⟩ = some (.int .i64 y) := by rw [hcr t hlt3, hy]
              have kI : (kk : Int) < (T.length : Int) := by omega
              have tI : (t : Int) < (zs.length : Int) := by omega
              have g1 : decide (T.length ≤ kk) = false := by simp; omega
              have hFT : (kk : Int) < (F.length : Int) := by omega
              subst hot hof hor
              clear hct hcf hcr hy hgg hgl
              go_wp2
              go_quiet (fail)
              go_wp2
              go_roundw
              case rel => exact ⟨t + 1, kk + 1, q2 + _, by omega, by go_num, by go_num, by omega, by rw [HWO.out, World.drewN_drewN]⟩
              case measure => simp [intOf]; omega
            · have hte : t = zs.length := by omega
              have hkx : kk = K0 + zs.length := by have := HKK.out; omega
              have HKX := hid hkx
              have HTE := hid hte
              clear hte hkx
              by_cases hkT : kk < T.length
              · have hkR : kk < R.length := by have := HLN.out; omega
                have haf := HAF.out kk HKX.out hkR
                rcases HIT.out with hz | ⟨bt, offt, hot, hct⟩
                · have := congrArg List.length hz; rw [List.length_map, List.length_nil] at this; omega
                obtain ⟨z, hz⟩ : ∃ z, z = (R.getD kk (0, 0)).1 := ⟨_, rfl⟩
                have ct1 : wr.cell? ⟨bt, offt + kk, none⟩ = some (.int .i64 z) := by
                  rw [hct kk (by rw [List.length_map]; exact hkR), map_getD1 R kk hkR, hz]
                rw [← hz] at haf
                have kI : (kk : Int) < (T.length : Int) := by omega
                have gz : (z == (u : Int)) = false := by simp; omega
                subst hot
                clear hct hz
                go_wp2
                go_roundw
                case rel => exact ⟨u + 1, q + q2, by omega, by go_num, by rw [HNX.out, ← HKX.out], by rw [HWO.out, HW.out, World.drewN_drewN]⟩
                case measure => simp [intOf]; omega
              · have g1 : decide (kk < T.length) = false := by simp; omega
                go_wp2
                go_roundw
                case rel => exact ⟨u + 1, q + q2, by omega, by go_num, by rw [HNX.out, ← HKX.out], by rw [HWO.out, HW.out, World.drewN_drewN]⟩
                case measure => simp [intOf]; omega
        · obtain rfl : u = k := by omega
          have hKT : K0 = T.length := by rw [HK0.out, ← HLN.out, HR.out]
          have hfin : ((K0 : Int) == (T.length : Int)) = true := by rw [hKT]; simp
          have hfin2 : (K0 == T.length) = true := by rw [hKT]; simp
          clear hKT
          go_wp2
          go_ret
          exact ⟨rfl, HBWR.out⟩
end Go.Proofs.Qxb6617182a
