/-
  SEAT b6617182a: lawSameLists, lawSamePairs, lawAllZero, each where it answers true.
-/
import Derived.Test.Qxb6617182aSame
import Derived.Test.Qxb6617182aCopyInts
namespace Go.Proofs.Qxb6617182a
open Go.RowKit Go.Deep

theorem neqB (w : World) (a b : Bool) : (binOp .neq 4 (.bool a) (.bool b)).run Try.prog w = .ok (.bool (a != b)) w := by
  cases a <;> cases b <;> kernel_rfl

set_option maxHeartbeats 1000000 in
theorem sameInts_draw (o1 o2 : Option Addr) (c1 c2 : Nat) (zs : List Int) (w : World) (h1 : IntsAt w o1 zs) (h2 : IntsAt w o2 zs) (hm : zs.length ≤ 1048576) :
    Calls Try.prog 30 #[.slice o1 zs.length c1, .slice o2 zs.length c2] w fun e w' => e = .returned (.bool true) ∧ ∃ n, w' = w.drewN n := by
  go_enter Try.func30, Try.ntmps30
  go_wp2
  go_loopw [5] (fun i wr => ∃ k q : Nat, k ≤ zs.length ∧ i = .int .i64 k ∧ wr = w.drewN q) (fun i _ => zs.length - (intOf i).toNat)
  case atStart => exact ⟨0, 0, Nat.zero_le _, rfl, rfl⟩
  case round =>
    obtain ⟨k, q, hk, rfl, rfl⟩ := hrel
    by_cases hlt : k < zs.length
    · rcases h1 with h1 | ⟨b1, off1, ho1, hc1⟩
      · simp [h1] at hlt
      rcases h2 with h2 | ⟨b2, off2, ho2, hc2⟩
      · simp [h2] at hlt
      subst ho1 ho2
      obtain ⟨x, hx⟩ : ∃ x, x = zs.getD k 0 := ⟨_, rfl⟩
      have e1 : w.cell? ⟨b1, off1 + k, none⟩ = some (.int .i64 x) := by rw [hx]; exact hc1 k hlt
      have e2 : w.cell? ⟨b2, off2 + k, none⟩ = some (.int .i64 x) := by rw [hx]; exact hc2 k hlt
      have hI : (k : Int) < (zs.length : Int) := by omega
      clear hc1 hc2 hx
      go_wp2
      go_quiet (fail)
      go_wp2
      go_roundw
      case rel => exact ⟨k + 1, _, by omega, by go_num, rfl⟩
      case measure => simp [intOf]; omega
    · clear h1 h2
      go_wp2
      go_ret
      exact ⟨rfl, q, rfl⟩

set_option maxHeartbeats 1000000 in
theorem allZero24 (g n c : Nat) (w : World) (h : w.rowIs g 3 n (fun _ => .int .i64 0)) (hm : n ≤ 1048576) :
    Calls Try.prog 24 #[.slice (some ⟨g, 0, none⟩) n c, .int .i64 n] w fun e w' => e = .returned (.bool true) ∧ w' = w := by
  go_enter Try.func24, Try.ntmps24
  go_wp2
  go_loop [5] (fun i => ∃ k : Nat, k ≤ n ∧ i = .int .i64 k) (fun i => n - (intOf i).toNat)
  case atStart => exact ⟨0, Nat.zero_le _, rfl⟩
  case round =>
    obtain ⟨k, hk, rfl⟩ := hrel
    by_cases hlt : k < n
    · have hc := h.cell hlt
      clear h
      go_wp2
      go_round
      case rel => exact ⟨k + 1, by omega, by go_num⟩
      case measure => simp [intOf]; omega
    · clear h
      go_wp2
      go_ret
      exact ⟨rfl, rfl⟩

set_option maxHeartbeats 1000000 in
theorem sameLists14 (o1 o2 : Option Addr) (n c1 c2 : Nat) (A1 A2 : Nat → Option Addr) (C1 C2 : Nat → Nat) (Z : Nat → List Int) (w : World) (h1 : MatAt w o1 n A1 C1 Z) (h2 : MatAt w o2 n A2 C2 Z) (hn : n ≤ 1048576) (hm : ∀ r, r < n → (Z r).length ≤ 1048576)
    (e0 : o1 = none ↔ o2 = none) (e1 : ∀ r, r < n → (A1 r = none ↔ A2 r = none)) :
    Calls Try.prog 14 #[.slice o1 n c1, .slice o2 n c2] w (RetTrue w) := by
  have H1 := hid h1
  have H2 := hid h2
  have HE := hid e1
  have HM := hid hm
  have q22 := eqlnil22
  have ez : o1.isNone = o2.isNone := by
    cases o1 <;> cases o2 <;> simp at e0 ⊢
  have hb : (o1.isNone != o2.isNone) = false := by rw [ez]; simp
  have HN := hid hb
  clear h1 h2 e1 hm e0 hb
  go_enter Try.func14, Try.ntmps14
  go_wp2
  clear q22
  go_loopw [5] (fun i wr => ∃ k q : Nat, k ≤ n ∧ i = .int .i64 k ∧ wr = w.drewN q) (fun i _ => n - (intOf i).toNat)
  case atStart => exact ⟨0, 0, Nat.zero_le _, rfl, rfl⟩
  case round =>
    obtain ⟨k, q, hk, rfl, hwr⟩ := hrel
    have hbw : Below w.heap.size w wr := by rw [hwr]; exact ⟨rfl, rfl, rfl, Nat.le_refl _, fun _ _ => rfl⟩
    have HW := hid hwr
    clear hwr
    by_cases hlt : k < n
    · rcases H1.out.1 with h0 | ⟨b1, off1, ho1, hc1⟩
      · omega
      rcases H2.out.1 with h0 | ⟨b2, off2, ho2, hc2⟩
      · omega
      have i1 : wr.cell? ⟨b1, off1 + k, none⟩ = some (.slice (A1 k) (Z k).length (C1 k)) := (hbw.cell (World.block_lt_of_cell? w _ (hc1 k hlt))).trans (hc1 k hlt)
      have i2 : wr.cell? ⟨b2, off2 + k, none⟩ = some (.slice (A2 k) (Z k).length (C2 k)) := (hbw.cell (World.block_lt_of_cell? w _ (hc2 k hlt))).trans (hc2 k hlt)
      have r1 := (H1.out.2 k hlt).below hbw
      have r2 := (H2.out.2 k hlt).below hbw
      have q40 := eqlnil40
      have hq : (A1 k).isNone = (A2 k).isNone := by
        have := HE.out k hlt
        cases h1 : A1 k <;> cases h2 : A2 k <;> simp [h1, h2] at this ⊢
      have hI : (k : Int) < (n : Int) := by omega
      have hml := HM.out k hlt
      have K : ∀ nn, Calls Try.prog 30 #[.slice (A1 k) (Z k).length (C1 k), .slice (A2 k) (Z k).length (C2 k)] (wr.drewN nn) fun e w'' => e = .returned (.bool true) ∧ ∃ m, w'' = (wr.drewN nn).drewN m := fun nn =>
        sameInts_draw (A1 k) (A2 k) (C1 k) (C2 k) (Z k) (wr.drewN nn) (r1.below ⟨rfl, rfl, rfl, Nat.le_refl _, fun _ _ => rfl⟩) (r2.below ⟨rfl, rfl, rfl, Nat.le_refl _, fun _ _ => rfl⟩) hml
      have HK := hid K
      clear r1 r2 hc1 hc2 K hbw
      subst ho1 ho2
      go_wp2
      go_quiet ((go_at_call 30; refine Calls.quiet_of (HK.out _)))
      go_wp2
      go_roundw
      case rel => exact ⟨k + 1, q + _, by omega, by go_num, by rw [HW.out, World.drewN_drewN]⟩
      case measure => simp [intOf]; omega
    · have hsz : wr.heap.size = w.heap.size := by rw [HW.out]; rfl
      have HZ := hid hsz
      clear hsz
      go_wp2
      go_ret
      exact ⟨rfl, hbw, HZ.out⟩
end Go.Proofs.Qxb6617182a
