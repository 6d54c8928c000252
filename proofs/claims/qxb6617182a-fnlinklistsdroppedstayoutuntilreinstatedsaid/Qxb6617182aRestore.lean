import Derived.Test.Qxb6617182aLL
import Derived.BigRegion
import Derived.Test.Qxb6617182aPlain
namespace Go.Proofs.Qxb6617182a
open Go.RowKit Go.Deep

theorem Try.elem40 : Try.prog.elem 40 = 3 := by kernel_rfl

theorem run_cut0 (o : Option Addr) (n c : Nat) (w : World) : (Instr.slice 40 (.slice o n c) none (some (.int .i64 0)) none).run Try.prog w = .ok (.slice o 0 c) w := by
  obtain ⟨i0, hi, hz0, hz1, hz2⟩ := info_parts Try.info3
  rw [run_slice_h w 40 o n c (by rw [Try.elem40, Try.underlying40]) .i64 0 (Int.le_refl _) (by omega), Try.elem40]
  have e : ∀ a : Addr, a.add 0 = a := fun a => by simp [Addr.add]
  cases o <;> simp [sliced, sizeOf, typeInfo, hi, e]

/-- What restore leaves. -/
def St.restored (s : St) : St :=
  { s with left := fun i => if (i : Int) ∈ s.lo then false else s.left i, lo := [], f0 := fun i => if (i : Int) ∈ s.mv then 0 else s.f0 i, f1 := fun i => if (i : Int) ∈ s.mv then 0 else s.f1 i, mv := [] }

def Restored (s : St) (w : World) (e : Ending) (w' : World) : Prop := e = .returned (.tuple #[]) ∧ LL w' s.restored ∧ Moved w w' s s.restored

theorem upd_left (s : St) (k x : Nat) (hlt : k < s.lo.length) (hx : (x : Int) = s.lo.getD k 0) :
    ({ ({ s with left := fun i => if (i : Int) ∈ s.lo.take k then false else s.left i } : St) with left := fun i => if i = x then false else if (i : Int) ∈ s.lo.take k then false else s.left i } : St) = { s with left := fun i => if (i : Int) ∈ s.lo.take (k + 1) then false else s.left i } := by
  have e : (fun i : Nat => if i = x then false else if (i : Int) ∈ s.lo.take k then false else s.left i) = fun i : Nat => if (i : Int) ∈ s.lo.take (k + 1) then false else s.left i := by
    funext i
    rw [take_snoc _ _ hlt, ← hx]
    by_cases e : i = x
    · subst e; simp
    · have e' : ¬ (i : Int) = (x : Int) := by omega
      simp [e, e']
  simp only [e]

/-- Behind the first loop. -/
def St.res1 (s : St) : St := { s with left := fun i => if (i : Int) ∈ s.lo then false else s.left i, lo := [] }

/-- In the second loop. -/
def St.res2 (s : St) (k : Nat) : St := { s.res1 with f0 := fun i => if (i : Int) ∈ s.mv.take k then 0 else s.f0 i, f1 := fun i => if (i : Int) ∈ s.mv.take k then 0 else s.f1 i }

theorem St.res2_zero (s : St) : s.res2 0 = s.res1 := by simp [St.res2, St.res1]

theorem St.res2_step (s : St) (k x : Nat) (hlt : k < s.mv.length) (hx : (x : Int) = s.mv.getD k 0) :
    ({ ({ s.res2 k with f0 := fun i => if i = x then 0 else (s.res2 k).f0 i } : St) with f1 := fun i => if i = x then 0 else (s.res2 k).f1 i } : St) = s.res2 (k + 1) := by
  have e : ∀ f : Nat → Nat, (fun i : Nat => if i = x then 0 else if (i : Int) ∈ s.mv.take k then 0 else f i) = fun i : Nat => if (i : Int) ∈ s.mv.take (k + 1) then 0 else f i := by
    intro f
    funext i
    rw [take_snoc _ _ hlt, ← hx]
    by_cases e : i = x
    · subst e; simp
    · have e' : ¬ (i : Int) = (x : Int) := by omega
      simp [e, e']
  simp only [St.res2, e]

theorem St.res2_end (s : St) : ({ s.res2 s.mv.length with mv := [] } : St) = s.restored := by
  simp [St.res2, St.res1, St.restored]

set_option maxHeartbeats 2000000 in
theorem restore42 (s : St) (w : World) (h : LL w s) (hlo : ∀ x ∈ s.lo, 0 ≤ x ∧ x < s.n) (hmv : ∀ x ∈ s.mv, 0 ≤ x ∧ x < s.n) (hl4 : s.lo.length ≤ 10000000) (hl8 : s.mv.length ≤ 10000000) :
    Calls Try.prog 42 #[.pointer (some ⟨s.lb, 0, none⟩)] w (Restored s w) := by
  have c4 : w.cell? ⟨s.lb, 4, none⟩ = some (.slice s.o4 s.lo.length s.c4) := h.cell rfl
  obtain ⟨o4, ho4⟩ : ∃ o, o = s.o4 := ⟨_, rfl⟩
  rw [← ho4] at c4
  have HO4 := hid ho4
  have H := hid h
  have HD := hid h.d
  obtain ⟨e1, e2, e3, e4, e5, e6⟩ := h.d
  clear h ho4
  have hcut := run_cut0
  go_enter Try.func42, Try.ntmps42
  go_wp2
  clear c4
  go_loopw [11] (fun i wr => ∃ k : Nat, k ≤ s.lo.length ∧ i = .int .i64 k ∧ LL wr { s with left := fun i => if (i : Int) ∈ s.lo.take k then false else s.left i } ∧ Moved w wr s { s with left := fun i => if (i : Int) ∈ s.lo.take k then false else s.left i })
    (fun i _ => s.lo.length - (intOf i).toNat)
  case atStart => exact ⟨0, Nat.zero_le _, rfl, by simpa using H.out, by simpa using Moved.refl w s⟩
  case round =>
    obtain ⟨k, hk, rfl, hst, hmo⟩ := hrel
    have HS := hid hst
    have HM := hid hmo
    have c3 : wr.cell? ⟨s.lb, 3, none⟩ = some (.slice (some ⟨s.gl, 0, none⟩) s.n s.n) := hst.cell rfl
    have c4 : wr.cell? ⟨s.lb, 4, none⟩ = some (.slice o4 s.lo.length s.c4) := by rw [HO4.out]; exact hst.cell rfl
    have f4 : wr.frozen? ⟨s.lb, 4, none⟩ = false := hst.frozen 4
    have c8 : wr.cell? ⟨s.lb, 8, none⟩ = some (.slice s.o8 s.mv.length s.c8) := hst.cell rfl
    clear hmo
    by_cases hlt : k < s.lo.length
    · rcases (show IntsAt wr o4 s.lo by rw [HO4.out]; exact hst.own4.at) with h0 | ⟨b2, off2, ho2, hc2⟩
      · simp [h0] at hlt
      obtain ⟨x, hx⟩ : ∃ x : Nat, (x : Int) = s.lo.getD k 0 := by
        have := hlo (s.lo.getD k 0) (by simp [List.getD, hlt])
        exact ⟨(s.lo.getD k 0).toNat, by omega⟩
      have hxn : x < s.n := by
        have := hlo (s.lo.getD k 0) (by simp [List.getD, hlt]); omega
      have hxI : (x : Int) < (s.n : Int) := by omega
      have ce : wr.cell? ⟨b2, off2 + k, none⟩ = some (.int .i64 (x : Int)) := by rw [hx]; exact hc2 k hlt
      have cl := hst.left.cell (i := x) hxn
      have fl := hst.left.frozen x
      have G := hst.setLeft x false
      have G2 := St.movedSet (w := wr) (s := { s with left := fun i => if (i : Int) ∈ s.lo.take k then false else s.left i }) (g := s.gl) (Or.inr (Or.inl rfl)) x (.bool false) { ({ s with left := fun i => if (i : Int) ∈ s.lo.take k then false else s.left i } : St) with left := fun i => if i = x then false else if (i : Int) ∈ s.lo.take k then false else s.left i } (fun k hk => hk)
      rw [upd_left s k x hlt hx] at G2
      have G' : LL _ _ := (upd_left s k x hlt hx) ▸ G
      have HG := hid G'
      have HG2 := hid (HM.out.trans G2)
      subst ho2
      clear hc2 hx hlo hst G G2 G' hmv c8
      go_wp2
      go_roundw
      case rel => exact ⟨k + 1, by omega, by go_num, HG.out, HG2.out⟩
      case measure => simp [intOf]; omega
    · have hke : s.lo.take k = s.lo := List.take_of_length_le (by omega)
      rw [hke] at HS HM
      have hst1 := HS.out.cut4
      have hmo1 : Moved w _ s s.res1 := HM.out.trans (St.movedSet (w := wr) (s := { s with left := fun i => if (i : Int) ∈ s.lo then false else s.left i }) (g := s.lb) (Or.inl rfl) 4 (.slice s.o4 0 s.c4) s.res1 (fun k hk => hk))
      have HS1 := hid (show LL _ s.res1 from hst1)
      have HM1 := hid hmo1
      obtain ⟨o8, ho8⟩ : ∃ o, o = s.o8 := ⟨_, rfl⟩
      rw [← ho8] at c8
      have HO8 := hid ho8
      have hc4 := HO4.out
      subst hc4
      clear hst hst1 hmo1 HS HM hke hlo ho8 c3
      go_wp2
      clear c4 f4 c8
      rename World => wo
      go_loopw [35] (fun i wr => ∃ k : Nat, k ≤ s.mv.length ∧ i = .int .i64 k ∧ LL wr (s.res2 k) ∧ Moved w wr s (s.res2 k)) (fun i _ => s.mv.length - (intOf i).toNat)
      case atStart => exact ⟨0, Nat.zero_le _, rfl, by rw [St.res2_zero]; exact HS1.out, by rw [St.res2_zero]; exact HM1.out⟩
      case round =>
        obtain ⟨j, hj, rfl, hst, hmo⟩ := hrel
        have HS := hid hst
        have HM := hid hmo
        have c6 : wr.cell? ⟨s.lb, 6, none⟩ = some (.slice (some ⟨s.g0, 0, none⟩) s.n s.n) := hst.cell rfl
        have c7 : wr.cell? ⟨s.lb, 7, none⟩ = some (.slice (some ⟨s.g1, 0, none⟩) s.n s.n) := hst.cell rfl
        have c8 : wr.cell? ⟨s.lb, 8, none⟩ = some (.slice o8 s.mv.length s.c8) := by rw [HO8.out]; exact hst.cell rfl
        have f8 : wr.frozen? ⟨s.lb, 8, none⟩ = false := hst.frozen 8
        clear hmo
        by_cases hlt2 : j < s.mv.length
        · rcases (show IntsAt wr o8 s.mv by rw [HO8.out]; exact hst.own8.at) with h0 | ⟨b2, off2, ho2, hc2⟩
          · simp [h0] at hlt2
          obtain ⟨x, hx⟩ : ∃ x : Nat, (x : Int) = s.mv.getD j 0 := by
            have := hmv (s.mv.getD j 0) (by simp [List.getD, hlt2])
            exact ⟨(s.mv.getD j 0).toNat, by omega⟩
          have hxn : x < s.n := by
            have := hmv (s.mv.getD j 0) (by simp [List.getD, hlt2]); omega
          have hxI : (x : Int) < (s.n : Int) := by omega
          have ce : wr.cell? ⟨b2, off2 + j, none⟩ = some (.int .i64 (x : Int)) := by rw [hx]; exact hc2 j hlt2
          have d0 := hst.f0.cell (i := x) hxn
          have d1 := hst.f1.cell (i := x) hxn
          have q0 : wr.frozen? ⟨s.g0, x, none⟩ = false := hst.f0.frozen x
          have q1 : wr.frozen? ⟨s.g1, x, none⟩ = false := hst.f1.frozen x
          have r0 : wr.cell? ⟨s.g0, x, none⟩ = some (.int .i64 ((s.res2 j).f0 x : Int)) := d0
          have r1 : wr.cell? ⟨s.g1, x, none⟩ = some (.int .i64 ((s.res2 j).f1 x : Int)) := d1
          have hI0 : (0 : Int) < 2 := by omega
          have hI1 : (1 : Int) < 2 := by omega
          subst ho2
          have HXX := hid hx
          have G0 : LL (wr.setCell ⟨s.g0, x, none⟩ (.int .i64 0)) { s.res2 j with f0 := fun i => if i = x then 0 else (s.res2 j).f0 i } := hst.setF0 x 0
          have G1 : LL ((wr.setCell ⟨s.g0, x, none⟩ (.int .i64 0)).setCell ⟨s.g1, x, none⟩ (.int .i64 0)) (s.res2 (j + 1)) := (St.res2_step s j x hlt2 hx) ▸ G0.setF1 x 0
          have M0 := St.movedSet (w := wr) (s := s.res2 j) (g := s.g0) (Or.inr (Or.inr (Or.inl rfl))) x (.int .i64 0) (s.res2 j) (fun k hk => hk)
          have M1 := St.movedSet (w := wr.setCell ⟨s.g0, x, none⟩ (.int .i64 0)) (s := s.res2 j) (g := s.g1) (Or.inr (Or.inr (Or.inr (Or.inl rfl)))) x (.int .i64 0) (s.res2 (j + 1)) (fun k hk => hk)
          have HG := hid G1
          have HG2 := hid (HM.out.trans (M0.trans M1))
          clear hc2 hmv hst d0 d1 c8 f8 hx G0 G1 M0 M1
          go_wp2
          go_region
          go_wp2
          go_roundw
          case rel => exact ⟨j + 1, by omega, by go_num, HG.out.keep (fun _ _ _ => rfl), HG2.out.drawn 1⟩
          case measure => simp [intOf]; omega
        · obtain rfl : j = s.mv.length := by omega
          have G1 : LL (wr.setCell ⟨s.lb, 8, none⟩ (.slice o8 0 s.c8)) s.restored := by rw [HO8.out]; exact (St.res2_end s) ▸ hst.cut8
          have M1 : Moved w (wr.setCell ⟨s.lb, 8, none⟩ (.slice o8 0 s.c8)) s s.restored := HM.out.trans (St.movedSet (w := wr) (s := s.res2 s.mv.length) (g := s.lb) (Or.inl rfl) 8 _ s.restored (fun k hk => hk))
          have HG := hid G1
          have HG2 := hid M1
          clear hst hmv G1 M1
          go_wp2
          go_end0
          exact ⟨rfl, HG.out, HG2.out⟩
end Go.Proofs.Qxb6617182a
