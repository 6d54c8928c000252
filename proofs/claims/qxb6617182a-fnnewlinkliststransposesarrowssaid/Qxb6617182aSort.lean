import Derived.Test.Qxb6617182aSortParts
import Derived.Deep.QuietTactic
import Derived.BigQuiet
namespace Go.Proofs.Qxb6617182a
open Go.RowKit Go.Deep

/-- What lawSortArrows leaves. -/
def Sorted39 (ot : Option Addr) (ct : Nat) (of : Option Addr) (cf : Nat) (P : List (Int × Int)) (w : World) (e : Ending) (w' : World) : Prop :=
  e = .returned (.tuple #[]) ∧ ∃ P' : List (Int × Int), P'.Perm P ∧ (P'.Pairwise fun a b => leP a b = true) ∧ OwnInts w' ot ct (P'.map Prod.fst) ∧ OwnInts w' of cf (P'.map Prod.snd) ∧ Only (fun b => ot = some ⟨b, 0, none⟩ ∨ of = some ⟨b, 0, none⟩) w w'

/-- The blocks that the sort writes to. -/
def SortOnly (gt gf b1 b2 : Nat) (b : Nat) : Prop := b = gt ∨ b = gf ∨ b = b1 ∨ b = b2

set_option maxHeartbeats 4000000 in
set_option maxRecDepth 20000 in
theorem sort39_some (gt gf ct cf m : Nat) (P0 : List (Int × Int)) (w : World) (ht : OwnInts w (some ⟨gt, 0, none⟩) ct (P0.map Prod.fst)) (hf : OwnInts w (some ⟨gf, 0, none⟩) cf (P0.map Prod.snd)) (hl : P0.length = m) (hne : gt ≠ gf) (hm : m ≤ 131072) :
    Calls Try.prog 39 #[.slice (some ⟨gt, 0, none⟩) m ct, .slice (some ⟨gf, 0, none⟩) m cf] w (Sorted39 (some ⟨gt, 0, none⟩) ct (some ⟨gf, 0, none⟩) cf P0 w) := by
  have hgt : gt < w.heap.size := by
    rcases ht.form with ⟨e, _, _⟩ | ⟨g, e, h, _⟩
    · cases e
    · simp at e; omega
  have hgf : gf < w.heap.size := by
    rcases hf.form with ⟨e, _, _⟩ | ⟨g, e, h, _⟩
    · cases e
    · simp at e; omega
  have HT := hid ht
  have HF := hid hf
  have HL := hid hl
  have mk := run_make_row' (P := Try.prog) 40 3 (.int .i64 0) 8 Try.underlying40 Try.info3 rfl .i64 .i64 m (by omega) (by omega)
  clear ht hf hl
  go_enter Try.func39, Try.ntmps39
  go_wp2
  clear mk
  obtain ⟨w1, hw1⟩ : ∃ x, x = (w.alloc (.cells (madeCells #[.int .i64 0] m) 3)).alloc (.cells (madeCells #[.int .i64 0] m) 3) := ⟨_, rfl⟩
  rw [← hw1]
  obtain ⟨b1, hb1⟩ : ∃ x, x = w.heap.size := ⟨_, rfl⟩
  obtain ⟨b2, hb2⟩ : ∃ x, x = w.heap.size + 1 := ⟨_, rfl⟩
  rw [← hb2, ← hb1]
  have s1 : (w.alloc (.cells (madeCells #[.int .i64 0] m) 3)).heap.size = w.heap.size + 1 := nblk_alloc _ _
  have hs1 : w1.heap.size = w.heap.size + 2 := by rw [hw1, nblk_alloc, s1]
  have hon1 : Only (fun _ => False) w w1 := by rw [hw1]; exact ((Only.refl _ _).alloc _).alloc _
  have hst1 : SortSt w1 gt gf b1 b2 ct cf m P0 (List.replicate m (0, 0)) := by
    refine ⟨HL.out, by simp, HT.out.keep fun g _ hg => hon1.block g hg (fun h => h), HF.out.keep fun g _ hg => hon1.block g hg (fun h => h), ?_, ?_⟩
    · rw [hw1, hb1]
      exact ((World.rowIs_made w (.int .i64 0) m 3).alloc _).congr fun i hi => by simp [List.getD, hi]
    · have t := World.rowIs_made (w.alloc (.cells (madeCells #[.int .i64 0] m) 3)) (.int .i64 0) m 3
      rw [s1] at t
      rw [hw1, hb2]
      exact t.congr fun i hi => by simp [List.getD, hi]
  have d1 : gt ≠ b1 := by omega
  have d2 : gt ≠ b2 := by omega
  have d3 : gf ≠ b1 := by omega
  have d4 : gf ≠ b2 := by omega
  have d5 : b1 ≠ b2 := by omega
  have HS1 := hid hst1
  have HO1 := hid hon1
  have HB := hid (And.intro hb1 (And.intro hb2 hs1))
  clear hb1 hb2 hs1 s1 hst1 hon1 hw1 HT HF
  go_loopw [7] (fun x wr => ∃ (W : Nat) (P B : List (Int × Int)), 1 ≤ W ∧ W ≤ 262144 ∧ x = .int .i64 W ∧ P.Perm P0 ∧ BS W P ∧ SortSt wr gt gf b1 b2 ct cf m P B ∧ Only (SortOnly gt gf b1 b2) w1 wr) (fun x _ => m - (intOf x).toNat)
  case atStart => exact ⟨1, P0, _, Nat.le_refl _, by omega, rfl, List.Perm.refl _, BS_one P0, HS1.out, Only.refl _ _⟩
  case round =>
    obtain ⟨W, P, B, hW1, hW2, rfl, hperm, hbs, hst, hon⟩ := hrel
    have HP := hid hperm
    have HBS := hid hbs
    have HST := hid hst
    have HON := hid hon
    clear hperm hbs hst hon
    by_cases hWm : W < m
    · rename World => wa
      go_wp2
      go_loopw [8] (fun x wr => ∃ (lo f : Nat) (B : List (Int × Int)), x = .int .i64 lo ∧ lo < m + 2 * W ∧ m ≤ lo + f ∧ B.take lo ++ pass W f (P.drop lo) = pass W m P ∧ SortSt wr gt gf b1 b2 ct cf m P B ∧ Only (SortOnly gt gf b1 b2) wa wr) (fun x _ => m - (intOf x).toNat)
      case atStart => exact ⟨0, m, B, rfl, by omega, by omega, by simp, HST.out, Only.refl _ _⟩
      case round =>
        obtain ⟨lo, f, B2, rfl, hlo, hfu, hpas, hst, hon⟩ := hrel
        have HPA := hid hpas
        have HS2 := hid hst
        have HO2 := hid hon
        clear hpas hst hon
        by_cases hlm : lo < m
        · rename World => wb
          obtain ⟨mid, hmid⟩ : ∃ x, x = min (lo + W) m := ⟨_, rfl⟩
          obtain ⟨hi, hhi⟩ : ∃ x, x = min (mid + W) m := ⟨_, rfl⟩
          have m1 : mid ≤ lo + W := by omega
          have m2 : mid ≤ m := by omega
          have m3 : lo < mid := by omega
          have i1 : hi ≤ mid + W := by omega
          have i2 : hi ≤ m := by omega
          have i3 : mid ≤ hi := by omega
          have m4 : lo + W ≤ mid ∨ m ≤ mid := by omega
          have i4 : mid + W ≤ hi ∨ m ≤ hi := by omega
          have HMI := hid (And.intro hmid hhi)
          clear hmid hhi
          by_cases cA : m < lo + W
          · go_wp2
            go_loopw [11, 12, 13] (fun xi xj xk wr => ∃ (i j k : Nat) (B3 : List (Int × Int)), xi = .int .i64 i ∧ xj = .int .i64 j ∧ xk = .int .i64 k ∧ lo ≤ i ∧ i ≤ mid ∧ mid ≤ j ∧ j ≤ hi ∧ k + mid = i + j ∧
                B3.take k ++ (seg P i mid).merge (seg P j hi) leP = B2.take lo ++ (seg P lo mid).merge (seg P mid hi) leP ∧ SortSt wr gt gf b1 b2 ct cf m P B3 ∧ Only (SortOnly gt gf b1 b2) wb wr) (fun _ _ k _ => hi - (intOf k).toNat)
            case atStart => exact ⟨lo, mid, lo, B2, by go_num, by go_num, by go_num, Nat.le_refl _, by omega, Nat.le_refl _, by omega, by omega, rfl, HS2.out, Only.refl _ _⟩
            case round =>
              obtain ⟨i, j, k, B3, rfl, rfl, rfl, j1, j2, j3, j4, j5, heq, hst, hon⟩ := hrel
              have j6 : k ≤ i + j - mid := by omega
              have j7 : i + j - mid ≤ k := by omega
              have HON3 := hid hon
              by_cases hkh : k < hi
              · have hkm : k < m := by omega
                have q1 := hst.r1.cell hkm
                have q2 := hst.r2.cell hkm
                have f1 := hst.r1.frozen k
                have f2 := hst.r2.frozen k
                obtain ⟨x1, hx1⟩ : ∃ x, x = (P.getD i (0, 0)).1 := ⟨_, rfl⟩
                obtain ⟨x2, hx2⟩ : ∃ x, x = (P.getD i (0, 0)).2 := ⟨_, rfl⟩
                obtain ⟨y1, hy1⟩ : ∃ x, x = (P.getD j (0, 0)).1 := ⟨_, rfl⟩
                obtain ⟨y2, hy2⟩ : ∃ x, x = (P.getD j (0, 0)).2 := ⟨_, rfl⟩
                have hx : (x1, x2) = P.getD i (0, 0) := by rw [hx1, hx2]
                have hy : (y1, y2) = P.getD j (0, 0) := by rw [hy1, hy2]
                have hle : leP (x1, x2) (y1, y2) = true ↔ x1 < y1 ∨ (x1 = y1 ∧ x2 ≤ y2) := leP_iff
                rw [hx, hy] at hle
                have GI : Hid (i < mid ∧ (j < hi → leP (P.getD i (0, 0)) (P.getD j (0, 0)) = true) → SortSt ((wr.setCell ⟨b1, k, none⟩ (.int .i64 x1)).setCell ⟨b2, k, none⟩ (.int .i64 x2)) gt gf b1 b2 ct cf m P (B3.set k (P.getD i (0, 0))) ∧ (B3.set k (P.getD i (0, 0))).take (k + 1) ++ (seg P (i + 1) mid).merge (seg P j hi) leP = B2.take lo ++ (seg P lo mid).merge (seg P mid hi) leP) := fun hlt =>
                  ⟨by rw [← hx]; exact hst.put ⟨d1, d2, d3, d4, d5⟩ hkm (x1, x2), step_i heq (by rw [hst.lb]; exact hkm) hlt.1 (by rw [hst.lp]; exact m2) (by rw [hst.lp]; exact i2) hlt.2⟩
                have GJ : Hid (j < hi ∧ (i < mid → leP (P.getD i (0, 0)) (P.getD j (0, 0)) = false) → SortSt ((wr.setCell ⟨b1, k, none⟩ (.int .i64 y1)).setCell ⟨b2, k, none⟩ (.int .i64 y2)) gt gf b1 b2 ct cf m P (B3.set k (P.getD j (0, 0))) ∧ (B3.set k (P.getD j (0, 0))).take (k + 1) ++ (seg P i mid).merge (seg P (j + 1) hi) leP = B2.take lo ++ (seg P lo mid).merge (seg P mid hi) leP) := fun hlt =>
                  ⟨by rw [← hy]; exact hst.put ⟨d1, d2, d3, d4, d5⟩ hkm (y1, y2), step_j heq (by rw [hst.lb]; exact hkm) hlt.1 (by rw [hst.lp]; exact m2) (by rw [hst.lp]; exact i2) hlt.2⟩
                have HLE := hid hle
                have HST3 := hid hst
                clear hle heq hst hon hx hy
                by_cases hic : i < mid
                · have ci1 : wr.cell? ⟨gt, i, none⟩ = some (.int .i64 x1) := by rw [hx1]; exact HST3.out.cell1 (by omega)
                  have ci2 : wr.cell? ⟨gf, i, none⟩ = some (.int .i64 x2) := by rw [hx2]; exact HST3.out.cell2 (by omega)
                  have iI : (i : Int) < (m : Int) := by omega
                  by_cases hjc : j < hi
                  · exfalso
                    omega
                  · clear hx1 hx2 hy1 hy2
                    go_wp2
                    go_roundw
                    case rel => first | exact ⟨i + 1, j, k + 1, _, by go_num, by go_num, by go_num, by omega, by omega, j3, j4, by omega, (GI.out ⟨hic, fun h => absurd h hjc⟩).2, (GI.out ⟨hic, fun h => absurd h hjc⟩).1, ((HON3.out.set (Or.inr (Or.inr (Or.inl rfl))) _).set (Or.inr (Or.inr (Or.inr rfl))) _)⟩ | ((repeat apply Exists.intro); exact ⟨⟨i + 1, j, k + 1, _, by go_num, by go_num, by go_num, by omega, by omega, j3, j4, by omega, (GI.out ⟨hic, fun h => absurd h hjc⟩).2, (GI.out ⟨hic, fun h => absurd h hjc⟩).1, ((HON3.out.set (Or.inr (Or.inr (Or.inl rfl))) _).set (Or.inr (Or.inr (Or.inr rfl))) _)⟩, rfl⟩)
                    case measure => simp [intOf]; omega
                · exfalso
                  omega
              · have hke : i = mid ∧ j = hi := by omega
                obtain ⟨rfl, rfl⟩ := hke
                have hk2 : k = j := by omega
                subst hk2
                have heq2 : B3.take k = B2.take lo ++ (seg P lo i).merge (seg P i k) leP := by
                  rw [← heq, seg_nil P i i (Nat.le_refl _), seg_nil P k k (Nat.le_refl _), List.merge_right, List.append_nil]
                have HEQ := hid heq2
                clear heq2
                have HST3 := hid hst
                clear heq hst hon
                go_wp2
                go_roundw
                case rel =>
                  obtain ⟨f', rfl⟩ : ∃ f', f = f' + 1 := ⟨f - 1, by omega⟩
                  exact ⟨lo + 2 * W, f', B3, by go_num, by omega, by omega, step_lo HST3.out.lp HST3.out.lb hlm hW1 HMI.out.1 HMI.out.2 HPA.out HEQ.out, HST3.out, HO2.out.trans HON3.out⟩
                case measure => simp [intOf]; omega
          by_cases cB : m < lo + W + W
          · go_wp2
            go_loopw [11, 12, 13] (fun xi xj xk wr => ∃ (i j k : Nat) (B3 : List (Int × Int)), xi = .int .i64 i ∧ xj = .int .i64 j ∧ xk = .int .i64 k ∧ lo ≤ i ∧ i ≤ mid ∧ mid ≤ j ∧ j ≤ hi ∧ k + mid = i + j ∧
                B3.take k ++ (seg P i mid).merge (seg P j hi) leP = B2.take lo ++ (seg P lo mid).merge (seg P mid hi) leP ∧ SortSt wr gt gf b1 b2 ct cf m P B3 ∧ Only (SortOnly gt gf b1 b2) wb wr) (fun _ _ k _ => hi - (intOf k).toNat)
            case atStart => exact ⟨lo, mid, lo, B2, by go_num, by go_num, by go_num, Nat.le_refl _, by omega, Nat.le_refl _, by omega, by omega, rfl, HS2.out, Only.refl _ _⟩
            case round =>
              obtain ⟨i, j, k, B3, rfl, rfl, rfl, j1, j2, j3, j4, j5, heq, hst, hon⟩ := hrel
              have j6 : k ≤ i + j - mid := by omega
              have j7 : i + j - mid ≤ k := by omega
              have HON3 := hid hon
              by_cases hkh : k < hi
              · have hkm : k < m := by omega
                have q1 := hst.r1.cell hkm
                have q2 := hst.r2.cell hkm
                have f1 := hst.r1.frozen k
                have f2 := hst.r2.frozen k
                obtain ⟨x1, hx1⟩ : ∃ x, x = (P.getD i (0, 0)).1 := ⟨_, rfl⟩
                obtain ⟨x2, hx2⟩ : ∃ x, x = (P.getD i (0, 0)).2 := ⟨_, rfl⟩
                obtain ⟨y1, hy1⟩ : ∃ x, x = (P.getD j (0, 0)).1 := ⟨_, rfl⟩
                obtain ⟨y2, hy2⟩ : ∃ x, x = (P.getD j (0, 0)).2 := ⟨_, rfl⟩
                have hx : (x1, x2) = P.getD i (0, 0) := by rw [hx1, hx2]
                have hy : (y1, y2) = P.getD j (0, 0) := by rw [hy1, hy2]
                have hle : leP (x1, x2) (y1, y2) = true ↔ x1 < y1 ∨ (x1 = y1 ∧ x2 ≤ y2) := leP_iff
                rw [hx, hy] at hle
                have GI : Hid (i < mid ∧ (j < hi → leP (P.getD i (0, 0)) (P.getD j (0, 0)) = true) → SortSt ((wr.setCell ⟨b1, k, none⟩ (.int .i64 x1)).setCell ⟨b2, k, none⟩ (.int .i64 x2)) gt gf b1 b2 ct cf m P (B3.set k (P.getD i (0, 0))) ∧ (B3.set k (P.getD i (0, 0))).take (k + 1) ++ (seg P (i + 1) mid).merge (seg P j hi) leP = B2.take lo ++ (seg P lo mid).merge (seg P mid hi) leP) := fun hlt =>
                  ⟨by rw [← hx]; exact hst.put ⟨d1, d2, d3, d4, d5⟩ hkm (x1, x2), step_i heq (by rw [hst.lb]; exact hkm) hlt.1 (by rw [hst.lp]; exact m2) (by rw [hst.lp]; exact i2) hlt.2⟩
                have GJ : Hid (j < hi ∧ (i < mid → leP (P.getD i (0, 0)) (P.getD j (0, 0)) = false) → SortSt ((wr.setCell ⟨b1, k, none⟩ (.int .i64 y1)).setCell ⟨b2, k, none⟩ (.int .i64 y2)) gt gf b1 b2 ct cf m P (B3.set k (P.getD j (0, 0))) ∧ (B3.set k (P.getD j (0, 0))).take (k + 1) ++ (seg P i mid).merge (seg P (j + 1) hi) leP = B2.take lo ++ (seg P lo mid).merge (seg P mid hi) leP) := fun hlt =>
                  ⟨by rw [← hy]; exact hst.put ⟨d1, d2, d3, d4, d5⟩ hkm (y1, y2), step_j heq (by rw [hst.lb]; exact hkm) hlt.1 (by rw [hst.lp]; exact m2) (by rw [hst.lp]; exact i2) hlt.2⟩
                have HLE := hid hle
                have HST3 := hid hst
                clear hle heq hst hon hx hy
                by_cases hic : i < mid
                · have ci1 : wr.cell? ⟨gt, i, none⟩ = some (.int .i64 x1) := by rw [hx1]; exact HST3.out.cell1 (by omega)
                  have ci2 : wr.cell? ⟨gf, i, none⟩ = some (.int .i64 x2) := by rw [hx2]; exact HST3.out.cell2 (by omega)
                  have iI : (i : Int) < (m : Int) := by omega
                  by_cases hjc : j < hi
                  · have cj1 : wr.cell? ⟨gt, j, none⟩ = some (.int .i64 y1) := by rw [hy1]; exact HST3.out.cell1 (by omega)
                    have cj2 : wr.cell? ⟨gf, j, none⟩ = some (.int .i64 y2) := by rw [hy2]; exact HST3.out.cell2 (by omega)
                    have jI : (j : Int) < (m : Int) := by omega
                    clear hx1 hx2 hy1 hy2
                    by_cases t1 : x1 < y1
                    · go_wp2
                      go_quiet (fail)
                      go_wp2
                      go_roundw
                      case rel => first | exact ⟨i + 1, j, k + 1, _, by go_num, by go_num, by go_num, by omega, by omega, j3, j4, by omega, (GI.out ⟨hic, fun _ => HLE.out.2 (Or.inl t1)⟩).2, (GI.out ⟨hic, fun _ => HLE.out.2 (Or.inl t1)⟩).1.drawn _, ((HON3.out.set (Or.inr (Or.inr (Or.inl rfl))) _).set (Or.inr (Or.inr (Or.inr rfl))) _).drawn _⟩ | ((repeat apply Exists.intro); exact ⟨⟨i + 1, j, k + 1, _, by go_num, by go_num, by go_num, by omega, by omega, j3, j4, by omega, (GI.out ⟨hic, fun _ => HLE.out.2 (Or.inl t1)⟩).2, (GI.out ⟨hic, fun _ => HLE.out.2 (Or.inl t1)⟩).1.drawn _, ((HON3.out.set (Or.inr (Or.inr (Or.inl rfl))) _).set (Or.inr (Or.inr (Or.inr rfl))) _).drawn _⟩, rfl⟩)
                      case measure => simp [intOf]; omega
                    · have g1 : decide (x1 < y1) = false := by simpa using t1
                      by_cases t2 : x1 = y1
                      · by_cases t3 : x2 ≤ y2
                        · have HC : Hid (i < mid ∧ (j < hi → leP (P.getD i (0, 0)) (P.getD j (0, 0)) = true)) := ⟨hic, fun _ => HLE.out.2 (Or.inr ⟨t2, t3⟩)⟩
                          have g2 : (x1 == y1) = true := by simpa using t2
                          clear t1 t2
                          go_wp2
                          go_quiet (fail)
                          go_wp2
                          go_roundw
                          case rel => first | exact ⟨i + 1, j, k + 1, _, by go_num, by go_num, by go_num, by omega, by omega, j3, j4, by omega, (GI.out HC.out).2, (GI.out HC.out).1.drawn _, ((HON3.out.set (Or.inr (Or.inr (Or.inl rfl))) _).set (Or.inr (Or.inr (Or.inr rfl))) _).drawn _⟩ | ((repeat apply Exists.intro); exact ⟨⟨i + 1, j, k + 1, _, by go_num, by go_num, by go_num, by omega, by omega, j3, j4, by omega, (GI.out HC.out).2, (GI.out HC.out).1.drawn _, ((HON3.out.set (Or.inr (Or.inr (Or.inl rfl))) _).set (Or.inr (Or.inr (Or.inr rfl))) _).drawn _⟩, rfl⟩)
                          case measure => simp [intOf]; omega
                        · have HC : Hid (j < hi ∧ (i < mid → leP (P.getD i (0, 0)) (P.getD j (0, 0)) = false)) := ⟨hjc, fun _ => by
                            rw [← Bool.not_eq_true, HLE.out]; omega⟩
                          have g2 : (x1 == y1) = true := by simpa using t2
                          have t3' : y2 < x2 := by omega
                          clear t1 t2 t3
                          go_wp2
                          go_quiet (fail)
                          go_wp2
                          go_roundw
                          case rel => first | exact ⟨i, j + 1, k + 1, _, by go_num, by go_num, by go_num, by omega, by omega, by omega, by omega, by omega, (GJ.out HC.out).2, (GJ.out HC.out).1.drawn _, ((HON3.out.set (Or.inr (Or.inr (Or.inl rfl))) _).set (Or.inr (Or.inr (Or.inr rfl))) _).drawn _⟩ | ((repeat apply Exists.intro); exact ⟨⟨i, j + 1, k + 1, _, by go_num, by go_num, by go_num, by omega, by omega, by omega, by omega, by omega, (GJ.out HC.out).2, (GJ.out HC.out).1.drawn _, ((HON3.out.set (Or.inr (Or.inr (Or.inl rfl))) _).set (Or.inr (Or.inr (Or.inr rfl))) _).drawn _⟩, rfl⟩)
                          case measure => simp [intOf]; omega
                      · have HC : Hid (j < hi ∧ (i < mid → leP (P.getD i (0, 0)) (P.getD j (0, 0)) = false)) := ⟨hjc, fun _ => by
                          rw [← Bool.not_eq_true, HLE.out]; omega⟩
                        have g2 : (x1 == y1) = false := by simpa using t2
                        clear t1 t2
                        go_wp2
                        go_quiet (fail)
                        go_wp2
                        go_roundw
                        case rel => first | exact ⟨i, j + 1, k + 1, _, by go_num, by go_num, by go_num, by omega, by omega, by omega, by omega, by omega, (GJ.out HC.out).2, (GJ.out HC.out).1.drawn _, ((HON3.out.set (Or.inr (Or.inr (Or.inl rfl))) _).set (Or.inr (Or.inr (Or.inr rfl))) _).drawn _⟩ | ((repeat apply Exists.intro); exact ⟨⟨i, j + 1, k + 1, _, by go_num, by go_num, by go_num, by omega, by omega, by omega, by omega, by omega, (GJ.out HC.out).2, (GJ.out HC.out).1.drawn _, ((HON3.out.set (Or.inr (Or.inr (Or.inl rfl))) _).set (Or.inr (Or.inr (Or.inr rfl))) _).drawn _⟩, rfl⟩)
                        case measure => simp [intOf]; omega
                  · clear hx1 hx2 hy1 hy2
                    go_wp2
                    go_roundw
                    case rel => first | exact ⟨i + 1, j, k + 1, _, by go_num, by go_num, by go_num, by omega, by omega, j3, j4, by omega, (GI.out ⟨hic, fun h => absurd h hjc⟩).2, (GI.out ⟨hic, fun h => absurd h hjc⟩).1, ((HON3.out.set (Or.inr (Or.inr (Or.inl rfl))) _).set (Or.inr (Or.inr (Or.inr rfl))) _)⟩ | ((repeat apply Exists.intro); exact ⟨⟨i + 1, j, k + 1, _, by go_num, by go_num, by go_num, by omega, by omega, j3, j4, by omega, (GI.out ⟨hic, fun h => absurd h hjc⟩).2, (GI.out ⟨hic, fun h => absurd h hjc⟩).1, ((HON3.out.set (Or.inr (Or.inr (Or.inl rfl))) _).set (Or.inr (Or.inr (Or.inr rfl))) _)⟩, rfl⟩)
                    case measure => simp [intOf]; omega
                · have hjc : j < hi := by omega
                  have cj1 : wr.cell? ⟨gt, j, none⟩ = some (.int .i64 y1) := by rw [hy1]; exact HST3.out.cell1 (by omega)
                  have cj2 : wr.cell? ⟨gf, j, none⟩ = some (.int .i64 y2) := by rw [hy2]; exact HST3.out.cell2 (by omega)
                  have jI : (j : Int) < (m : Int) := by omega
                  clear hx1 hx2 hy1 hy2
                  go_wp2
                  go_roundw
                  case rel => first | exact ⟨i, j + 1, k + 1, _, by go_num, by go_num, by go_num, by omega, by omega, by omega, by omega, by omega, (GJ.out ⟨hjc, fun h => absurd h hic⟩).2, (GJ.out ⟨hjc, fun h => absurd h hic⟩).1, ((HON3.out.set (Or.inr (Or.inr (Or.inl rfl))) _).set (Or.inr (Or.inr (Or.inr rfl))) _)⟩ | ((repeat apply Exists.intro); exact ⟨⟨i, j + 1, k + 1, _, by go_num, by go_num, by go_num, by omega, by omega, by omega, by omega, by omega, (GJ.out ⟨hjc, fun h => absurd h hic⟩).2, (GJ.out ⟨hjc, fun h => absurd h hic⟩).1, ((HON3.out.set (Or.inr (Or.inr (Or.inl rfl))) _).set (Or.inr (Or.inr (Or.inr rfl))) _)⟩, rfl⟩)
                  case measure => simp [intOf]; omega
              · have hke : i = mid ∧ j = hi := by omega
                obtain ⟨rfl, rfl⟩ := hke
                have hk2 : k = j := by omega
                subst hk2
                have heq2 : B3.take k = B2.take lo ++ (seg P lo i).merge (seg P i k) leP := by
                  rw [← heq, seg_nil P i i (Nat.le_refl _), seg_nil P k k (Nat.le_refl _), List.merge_right, List.append_nil]
                have HEQ := hid heq2
                clear heq2
                have HST3 := hid hst
                clear heq hst hon
                go_wp2
                go_roundw
                case rel =>
                  obtain ⟨f', rfl⟩ : ∃ f', f = f' + 1 := ⟨f - 1, by omega⟩
                  exact ⟨lo + 2 * W, f', B3, by go_num, by omega, by omega, step_lo HST3.out.lp HST3.out.lb hlm hW1 HMI.out.1 HMI.out.2 HPA.out HEQ.out, HST3.out, HO2.out.trans HON3.out⟩
                case measure => simp [intOf]; omega
          · go_wp2
            go_loopw [11, 12, 13] (fun xi xj xk wr => ∃ (i j k : Nat) (B3 : List (Int × Int)), xi = .int .i64 i ∧ xj = .int .i64 j ∧ xk = .int .i64 k ∧ lo ≤ i ∧ i ≤ mid ∧ mid ≤ j ∧ j ≤ hi ∧ k + mid = i + j ∧
                B3.take k ++ (seg P i mid).merge (seg P j hi) leP = B2.take lo ++ (seg P lo mid).merge (seg P mid hi) leP ∧ SortSt wr gt gf b1 b2 ct cf m P B3 ∧ Only (SortOnly gt gf b1 b2) wb wr) (fun _ _ k _ => hi - (intOf k).toNat)
            case atStart => exact ⟨lo, mid, lo, B2, by go_num, by go_num, by go_num, Nat.le_refl _, by omega, Nat.le_refl _, by omega, by omega, rfl, HS2.out, Only.refl _ _⟩
            case round =>
              obtain ⟨i, j, k, B3, rfl, rfl, rfl, j1, j2, j3, j4, j5, heq, hst, hon⟩ := hrel
              have j6 : k ≤ i + j - mid := by omega
              have j7 : i + j - mid ≤ k := by omega
              have HON3 := hid hon
              by_cases hkh : k < hi
              · have hkm : k < m := by omega
                have q1 := hst.r1.cell hkm
                have q2 := hst.r2.cell hkm
                have f1 := hst.r1.frozen k
                have f2 := hst.r2.frozen k
                obtain ⟨x1, hx1⟩ : ∃ x, x = (P.getD i (0, 0)).1 := ⟨_, rfl⟩
                obtain ⟨x2, hx2⟩ : ∃ x, x = (P.getD i (0, 0)).2 := ⟨_, rfl⟩
                obtain ⟨y1, hy1⟩ : ∃ x, x = (P.getD j (0, 0)).1 := ⟨_, rfl⟩
                obtain ⟨y2, hy2⟩ : ∃ x, x = (P.getD j (0, 0)).2 := ⟨_, rfl⟩
                have hx : (x1, x2) = P.getD i (0, 0) := by rw [hx1, hx2]
                have hy : (y1, y2) = P.getD j (0, 0) := by rw [hy1, hy2]
                have hle : leP (x1, x2) (y1, y2) = true ↔ x1 < y1 ∨ (x1 = y1 ∧ x2 ≤ y2) := leP_iff
                rw [hx, hy] at hle
                have GI : Hid (i < mid ∧ (j < hi → leP (P.getD i (0, 0)) (P.getD j (0, 0)) = true) → SortSt ((wr.setCell ⟨b1, k, none⟩ (.int .i64 x1)).setCell ⟨b2, k, none⟩ (.int .i64 x2)) gt gf b1 b2 ct cf m P (B3.set k (P.getD i (0, 0))) ∧ (B3.set k (P.getD i (0, 0))).take (k + 1) ++ (seg P (i + 1) mid).merge (seg P j hi) leP = B2.take lo ++ (seg P lo mid).merge (seg P mid hi) leP) := fun hlt =>
                  ⟨by rw [← hx]; exact hst.put ⟨d1, d2, d3, d4, d5⟩ hkm (x1, x2), step_i heq (by rw [hst.lb]; exact hkm) hlt.1 (by rw [hst.lp]; exact m2) (by rw [hst.lp]; exact i2) hlt.2⟩
                have GJ : Hid (j < hi ∧ (i < mid → leP (P.getD i (0, 0)) (P.getD j (0, 0)) = false) → SortSt ((wr.setCell ⟨b1, k, none⟩ (.int .i64 y1)).setCell ⟨b2, k, none⟩ (.int .i64 y2)) gt gf b1 b2 ct cf m P (B3.set k (P.getD j (0, 0))) ∧ (B3.set k (P.getD j (0, 0))).take (k + 1) ++ (seg P i mid).merge (seg P (j + 1) hi) leP = B2.take lo ++ (seg P lo mid).merge (seg P mid hi) leP) := fun hlt =>
                  ⟨by rw [← hy]; exact hst.put ⟨d1, d2, d3, d4, d5⟩ hkm (y1, y2), step_j heq (by rw [hst.lb]; exact hkm) hlt.1 (by rw [hst.lp]; exact m2) (by rw [hst.lp]; exact i2) hlt.2⟩
                have HLE := hid hle
                have HST3 := hid hst
                clear hle heq hst hon hx hy
                by_cases hic : i < mid
                · have ci1 : wr.cell? ⟨gt, i, none⟩ = some (.int .i64 x1) := by rw [hx1]; exact HST3.out.cell1 (by omega)
                  have ci2 : wr.cell? ⟨gf, i, none⟩ = some (.int .i64 x2) := by rw [hx2]; exact HST3.out.cell2 (by omega)
                  have iI : (i : Int) < (m : Int) := by omega
                  by_cases hjc : j < hi
                  · have cj1 : wr.cell? ⟨gt, j, none⟩ = some (.int .i64 y1) := by rw [hy1]; exact HST3.out.cell1 (by omega)
                    have cj2 : wr.cell? ⟨gf, j, none⟩ = some (.int .i64 y2) := by rw [hy2]; exact HST3.out.cell2 (by omega)
                    have jI : (j : Int) < (m : Int) := by omega
                    clear hx1 hx2 hy1 hy2
                    by_cases t1 : x1 < y1
                    · go_wp2
                      go_quiet (fail)
                      go_wp2
                      go_roundw
                      case rel => first | exact ⟨i + 1, j, k + 1, _, by go_num, by go_num, by go_num, by omega, by omega, j3, j4, by omega, (GI.out ⟨hic, fun _ => HLE.out.2 (Or.inl t1)⟩).2, (GI.out ⟨hic, fun _ => HLE.out.2 (Or.inl t1)⟩).1.drawn _, ((HON3.out.set (Or.inr (Or.inr (Or.inl rfl))) _).set (Or.inr (Or.inr (Or.inr rfl))) _).drawn _⟩ | ((repeat apply Exists.intro); exact ⟨⟨i + 1, j, k + 1, _, by go_num, by go_num, by go_num, by omega, by omega, j3, j4, by omega, (GI.out ⟨hic, fun _ => HLE.out.2 (Or.inl t1)⟩).2, (GI.out ⟨hic, fun _ => HLE.out.2 (Or.inl t1)⟩).1.drawn _, ((HON3.out.set (Or.inr (Or.inr (Or.inl rfl))) _).set (Or.inr (Or.inr (Or.inr rfl))) _).drawn _⟩, rfl⟩)
                      case measure => simp [intOf]; omega
                    · have g1 : decide (x1 < y1) = false := by simpa using t1
                      by_cases t2 : x1 = y1
                      · by_cases t3 : x2 ≤ y2
                        · have HC : Hid (i < mid ∧ (j < hi → leP (P.getD i (0, 0)) (P.getD j (0, 0)) = true)) := ⟨hic, fun _ => HLE.out.2 (Or.inr ⟨t2, t3⟩)⟩
                          have g2 : (x1 == y1) = true := by simpa using t2
                          clear t1 t2
                          go_wp2
                          go_quiet (fail)
                          go_wp2
                          go_roundw
                          case rel => first | exact ⟨i + 1, j, k + 1, _, by go_num, by go_num, by go_num, by omega, by omega, j3, j4, by omega, (GI.out HC.out).2, (GI.out HC.out).1.drawn _, ((HON3.out.set (Or.inr (Or.inr (Or.inl rfl))) _).set (Or.inr (Or.inr (Or.inr rfl))) _).drawn _⟩ | ((repeat apply Exists.intro); exact ⟨⟨i + 1, j, k + 1, _, by go_num, by go_num, by go_num, by omega, by omega, j3, j4, by omega, (GI.out HC.out).2, (GI.out HC.out).1.drawn _, ((HON3.out.set (Or.inr (Or.inr (Or.inl rfl))) _).set (Or.inr (Or.inr (Or.inr rfl))) _).drawn _⟩, rfl⟩)
                          case measure => simp [intOf]; omega
                        · have HC : Hid (j < hi ∧ (i < mid → leP (P.getD i (0, 0)) (P.getD j (0, 0)) = false)) := ⟨hjc, fun _ => by
                            rw [← Bool.not_eq_true, HLE.out]; omega⟩
                          have g2 : (x1 == y1) = true := by simpa using t2
                          have t3' : y2 < x2 := by omega
                          clear t1 t2 t3
                          go_wp2
                          go_quiet (fail)
                          go_wp2
                          go_roundw
                          case rel => first | exact ⟨i, j + 1, k + 1, _, by go_num, by go_num, by go_num, by omega, by omega, by omega, by omega, by omega, (GJ.out HC.out).2, (GJ.out HC.out).1.drawn _, ((HON3.out.set (Or.inr (Or.inr (Or.inl rfl))) _).set (Or.inr (Or.inr (Or.inr rfl))) _).drawn _⟩ | ((repeat apply Exists.intro); exact ⟨⟨i, j + 1, k + 1, _, by go_num, by go_num, by go_num, by omega, by omega, by omega, by omega, by omega, (GJ.out HC.out).2, (GJ.out HC.out).1.drawn _, ((HON3.out.set (Or.inr (Or.inr (Or.inl rfl))) _).set (Or.inr (Or.inr (Or.inr rfl))) _).drawn _⟩, rfl⟩)
                          case measure => simp [intOf]; omega
                      · have HC : Hid (j < hi ∧ (i < mid → leP (P.getD i (0, 0)) (P.getD j (0, 0)) = false)) := ⟨hjc, fun _ => by
                          rw [← Bool.not_eq_true, HLE.out]; omega⟩
                        have g2 : (x1 == y1) = false := by simpa using t2
                        clear t1 t2
                        go_wp2
                        go_quiet (fail)
                        go_wp2
                        go_roundw
                        case rel => first | exact ⟨i, j + 1, k + 1, _, by go_num, by go_num, by go_num, by omega, by omega, by omega, by omega, by omega, (GJ.out HC.out).2, (GJ.out HC.out).1.drawn _, ((HON3.out.set (Or.inr (Or.inr (Or.inl rfl))) _).set (Or.inr (Or.inr (Or.inr rfl))) _).drawn _⟩ | ((repeat apply Exists.intro); exact ⟨⟨i, j + 1, k + 1, _, by go_num, by go_num, by go_num, by omega, by omega, by omega, by omega, by omega, (GJ.out HC.out).2, (GJ.out HC.out).1.drawn _, ((HON3.out.set (Or.inr (Or.inr (Or.inl rfl))) _).set (Or.inr (Or.inr (Or.inr rfl))) _).drawn _⟩, rfl⟩)
                        case measure => simp [intOf]; omega
                  · clear hx1 hx2 hy1 hy2
                    go_wp2
                    go_roundw
                    case rel => first | exact ⟨i + 1, j, k + 1, _, by go_num, by go_num, by go_num, by omega, by omega, j3, j4, by omega, (GI.out ⟨hic, fun h => absurd h hjc⟩).2, (GI.out ⟨hic, fun h => absurd h hjc⟩).1, ((HON3.out.set (Or.inr (Or.inr (Or.inl rfl))) _).set (Or.inr (Or.inr (Or.inr rfl))) _)⟩ | ((repeat apply Exists.intro); exact ⟨⟨i + 1, j, k + 1, _, by go_num, by go_num, by go_num, by omega, by omega, j3, j4, by omega, (GI.out ⟨hic, fun h => absurd h hjc⟩).2, (GI.out ⟨hic, fun h => absurd h hjc⟩).1, ((HON3.out.set (Or.inr (Or.inr (Or.inl rfl))) _).set (Or.inr (Or.inr (Or.inr rfl))) _)⟩, rfl⟩)
                    case measure => simp [intOf]; omega
                · have hjc : j < hi := by omega
                  have cj1 : wr.cell? ⟨gt, j, none⟩ = some (.int .i64 y1) := by rw [hy1]; exact HST3.out.cell1 (by omega)
                  have cj2 : wr.cell? ⟨gf, j, none⟩ = some (.int .i64 y2) := by rw [hy2]; exact HST3.out.cell2 (by omega)
                  have jI : (j : Int) < (m : Int) := by omega
                  clear hx1 hx2 hy1 hy2
                  go_wp2
                  go_roundw
                  case rel => first | exact ⟨i, j + 1, k + 1, _, by go_num, by go_num, by go_num, by omega, by omega, by omega, by omega, by omega, (GJ.out ⟨hjc, fun h => absurd h hic⟩).2, (GJ.out ⟨hjc, fun h => absurd h hic⟩).1, ((HON3.out.set (Or.inr (Or.inr (Or.inl rfl))) _).set (Or.inr (Or.inr (Or.inr rfl))) _)⟩ | ((repeat apply Exists.intro); exact ⟨⟨i, j + 1, k + 1, _, by go_num, by go_num, by go_num, by omega, by omega, by omega, by omega, by omega, (GJ.out ⟨hjc, fun h => absurd h hic⟩).2, (GJ.out ⟨hjc, fun h => absurd h hic⟩).1, ((HON3.out.set (Or.inr (Or.inr (Or.inl rfl))) _).set (Or.inr (Or.inr (Or.inr rfl))) _)⟩, rfl⟩)
                  case measure => simp [intOf]; omega
              · have hke : i = mid ∧ j = hi := by omega
                obtain ⟨rfl, rfl⟩ := hke
                have hk2 : k = j := by omega
                subst hk2
                have heq2 : B3.take k = B2.take lo ++ (seg P lo i).merge (seg P i k) leP := by
                  rw [← heq, seg_nil P i i (Nat.le_refl _), seg_nil P k k (Nat.le_refl _), List.merge_right, List.append_nil]
                have HEQ := hid heq2
                clear heq2
                have HST3 := hid hst
                clear heq hst hon
                go_wp2
                go_roundw
                case rel =>
                  obtain ⟨f', rfl⟩ : ∃ f', f = f' + 1 := ⟨f - 1, by omega⟩
                  exact ⟨lo + 2 * W, f', B3, by go_num, by omega, by omega, step_lo HST3.out.lp HST3.out.lb hlm hW1 HMI.out.1 HMI.out.2 HPA.out HEQ.out, HST3.out, HO2.out.trans HON3.out⟩
                case measure => simp [intOf]; omega
        · have hB2 : B2 = pass W m P := by
            have h1 := HPA.out
            rw [List.take_of_length_le (by rw [HS2.out.lb]; omega), List.drop_eq_nil_of_le (by rw [HS2.out.lp]; omega), pass_nil, List.append_nil] at h1
            exact h1
          have HB2 := hid hB2
          clear hB2
          go_wp2
          rename World => wb
          go_loopw [15] (fun x wr => ∃ kk : Nat, kk ≤ m ∧ x = .int .i64 kk ∧ SortSt wr gt gf b1 b2 ct cf m (B2.take kk ++ P.drop kk) B2 ∧ Only (SortOnly gt gf b1 b2) wb wr) (fun x _ => m - (intOf x).toNat)
          case atStart => exact ⟨0, Nat.zero_le _, rfl, by simpa using HS2.out, Only.refl _ _⟩
          case round =>
            obtain ⟨kk, hkk, rfl, hst, hon⟩ := hrel
            have HON4 := hid hon
            by_cases hkm : kk < m
            · obtain ⟨x1, hx1⟩ : ∃ x, x = (B2.getD kk (0, 0)).1 := ⟨_, rfl⟩
              obtain ⟨x2, hx2⟩ : ∃ x, x = (B2.getD kk (0, 0)).2 := ⟨_, rfl⟩
              have c1 : wr.cell? ⟨b1, kk, none⟩ = some (.int .i64 x1) := by rw [hx1]; exact hst.r1.cell hkm
              have c2 : wr.cell? ⟨b2, kk, none⟩ = some (.int .i64 x2) := by rw [hx2]; exact hst.r2.cell hkm
              have q1 := hst.cell1 hkm
              have q2 := hst.cell2 hkm
              have f1 := own_frozen hst.o1 kk
              have f2 := own_frozen hst.o2 kk
              have HG : Hid (SortSt ((wr.setCell ⟨gt, kk, none⟩ (.int .i64 x1)).setCell ⟨gf, kk, none⟩ (.int .i64 x2)) gt gf b1 b2 ct cf m (B2.take (kk + 1) ++ P.drop (kk + 1)) B2) := by
                have t := hst.copy ⟨d1, d2, d3, d4, hne⟩ (k := kk) (B2.getD kk (0, 0))
                rw [copy_step B2 P kk (by rw [hst.lb]; exact hkm) (by rw [HS2.out.lp, HS2.out.lb])] at t
                rw [hx1, hx2]; exact t
              clear hst hon hx1 hx2
              go_wp2
              go_roundw
              case rel => exact ⟨kk + 1, by omega, by go_num, HG.out, (HON4.out.set (Or.inl rfl) _).set (Or.inr (Or.inl rfl)) _⟩
              case measure => simp [intOf]; omega
            · have hst2 : SortSt wr gt gf b1 b2 ct cf m B2 B2 := by
                have t := hst
                rw [List.take_of_length_le (by rw [hst.lb]; omega), List.drop_eq_nil_of_le (by rw [HS2.out.lp]; omega), List.append_nil] at t
                exact t
              have HS4 := hid hst2
              clear hst hst2 hon
              go_wp2
              go_roundw
              case rel =>
                refine ⟨2 * W, B2, B2, by omega, by omega, by go_num, ?_, ?_, HS4.out, HON.out.trans (HO2.out.trans HON4.out)⟩
                · rw [HB2.out]; exact (pass_perm W hW1 m P (by rw [HST.out.lp]; exact Nat.le_refl _)).trans HP.out
                · rw [HB2.out]; exact pass_BS W m P HBS.out
              case measure => simp [intOf]; omega
    · go_wp2
      go_end0
      refine ⟨rfl, P, HP.out, BS_done HBS.out (by rw [HST.out.lp]; omega), HST.out.o1, HST.out.o2, ?_⟩
      obtain ⟨e1, e2, e3⟩ := HB.out
      have o1 := HO1.out
      have o2 := HON.out
      refine ⟨o2.os.trans o1.os, o2.tape.trans o1.tape, o2.output.trans o1.output, Nat.le_trans o1.size o2.size, fun k hk hnk => (o2.block k (by omega) (fun hc => ?_)).trans (o1.block k hk (fun h => h))⟩
      rcases hc with h | h | h | h
      · exact hnk (Or.inl (by rw [h]))
      · exact hnk (Or.inr (by rw [h]))
      · omega
      · omega

theorem sort39 (ot : Option Addr) (ct : Nat) (of : Option Addr) (cf : Nat) (P0 : List (Int × Int)) (w : World) (ht : OwnInts w ot ct (P0.map Prod.fst)) (hf : OwnInts w of cf (P0.map Prod.snd)) (hne : ∀ g, ot = some ⟨g, 0, none⟩ → of ≠ some ⟨g, 0, none⟩) (hm : P0.length ≤ 131072) :
    Calls Try.prog 39 #[.slice ot P0.length ct, .slice of P0.length cf] w (Sorted39 ot ct of cf P0 w) := by
  by_cases h0 : P0 = []
  · subst h0
    have HT := hid ht
    have HF := hid hf
    have mk := run_make_row' (P := Try.prog) 40 3 (.int .i64 0) 8 Try.underlying40 Try.info3 rfl .i64 .i64 0 (by omega) (by omega)
    clear ht hf hne
    simp only [Int.natCast_zero] at mk
    go_enter Try.func39, Try.ntmps39
    go_wp2
    go_loopw [7] (fun x wr => x = .int .i64 1 ∧ Only (fun _ => False) w wr) (fun _ _ => 0)
    case atStart => exact ⟨rfl, ((Only.refl _ _).alloc _).alloc _⟩
    case round =>
      obtain ⟨rfl, hon⟩ := hrel
      have HON := hid hon
      clear hon
      go_wp2
      go_end0
      have o := HON.out
      exact ⟨rfl, [], List.Perm.refl _, List.Pairwise.nil, HT.out.keep fun g _ hl => o.block g hl (fun h => h), HF.out.keep fun g _ hl => o.block g hl (fun h => h), ⟨o.os, o.tape, o.output, o.size, fun k hk _ => o.block k hk (fun h => h)⟩⟩
  · have hl : 0 < P0.length := List.length_pos_iff.2 h0
    rcases ht.form with ⟨_, _, e⟩ | ⟨gt, rfl, _, _⟩
    · exact absurd (List.map_eq_nil_iff.1 e) h0
    rcases hf.form with ⟨_, _, e⟩ | ⟨gf, rfl, _, _⟩
    · exact absurd (List.map_eq_nil_iff.1 e) h0
    exact sort39_some gt gf ct cf P0.length P0 w ht hf rfl (fun e => hne gt rfl (by rw [e])) hm

end Go.Proofs.Qxb6617182a
