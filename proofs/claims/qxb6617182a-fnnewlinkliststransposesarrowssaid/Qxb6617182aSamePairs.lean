import Derived.Test.Qxb6617182aSameMore
namespace Go.Proofs.Qxb6617182a
open Go.RowKit Go.Deep

theorem eqlnil31 (w : World) (a : Option Addr) (n c : Nat) : (binOp .eql 31 (.slice a n c) (.slice none 0 0)).run Try.prog w = .ok (.bool a.isNone) w := Lib.run_eql_slice_nil w 31 56 a n c 0 0 Try.underlying31
theorem eqlnil56 (w : World) (a : Option Addr) (n c : Nat) : (binOp .eql 56 (.slice a n c) (.slice none 0 0)).run Try.prog w = .ok (.bool a.isNone) w := Lib.run_eql_slice_nil w 56 57 a n c 0 0 Try.underlying56

/-- It returns true; nothing old has turned. -/
def RetTrueB (w : World) (e : Ending) (w' : World) : Prop := e = .returned (.bool true) ∧ Below w.heap.size w w'

set_option maxHeartbeats 2000000 in
set_option maxRecDepth 20000 in
theorem samePairs16 (o1 o2 : Option Addr) (n c1 c2 : Nat) (A1 A2 : Nat → Option Addr) (L C1 C2 : Nat → Nat) (Z : Nat → List Int) (w : World) (h1 : PMatP (fun _ => True) w o1 n A1 L C1 Z) (h2 : PMatP (fun _ => True) w o2 n A2 L C2 Z) (hn : n ≤ 1048576) (hm : ∀ r, r < n → L r ≤ 1048576)
    (e0 : o1 = none ↔ o2 = none) (e1 : ∀ r, r < n → (A1 r = none ↔ A2 r = none)) :
    Calls Try.prog 16 #[.slice o1 n c1, .slice o2 n c2] w (RetTrueB w) := by
  have H1 := hid h1
  have H2 := hid h2
  have HE := hid e1
  have HM := hid hm
  have q31 := eqlnil31
  have q23 := eqlnil23
  have ez : o1.isNone = o2.isNone := by
    cases o1 <;> cases o2 <;> simp at e0 ⊢
  clear h1 h2 e1 hm e0
  go_enter Try.func16, Try.ntmps16
  go_wp2
  clear q31 q23 ez
  go_loopw [5] (fun i wr => ∃ k : Nat, k ≤ n ∧ i = .int .i64 k ∧ Below w.heap.size w wr) (fun i _ => n - (intOf i).toNat)
  case atStart => exact ⟨0, Nat.zero_le _, rfl, Below.refl _ _⟩
  case round =>
    obtain ⟨k, hk, rfl, hbw⟩ := hrel
    by_cases hlt : k < n
    · rcases H1.out.1 with h0 | ⟨b1, off1, ho1, _, hc1⟩
      · omega
      rcases H2.out.1 with h0 | ⟨b2, off2, ho2, _, hc2⟩
      · omega
      have i1 : wr.cell? ⟨b1, off1 + k, none⟩ = some (.slice (A1 k) (L k) (C1 k)) := (hbw.cell (World.block_lt_of_cell? w _ (hc1 k hlt))).trans (hc1 k hlt)
      have i2 : wr.cell? ⟨b2, off2 + k, none⟩ = some (.slice (A2 k) (L k) (C2 k)) := (hbw.cell (World.block_lt_of_cell? w _ (hc2 k hlt))).trans (hc2 k hlt)
      have HI1 := hid (hc1 k hlt)
      have HI2 := hid (hc2 k hlt)
      have q56 := eqlnil56
      have q53 := eqlnil53
      have hq : (A1 k).isNone = (A2 k).isNone := by
        have := HE.out k hlt
        cases h1 : A1 k <;> cases h2 : A2 k <;> simp [h1, h2] at this ⊢
      have hI : (k : Int) < (n : Int) := by omega
      have hml := HM.out k hlt
      have HBW := hid hbw
      have r1 := hid (H1.out.2 k hlt)
      have r2 := hid (H2.out.2 k hlt)
      obtain ⟨a1, ha1⟩ : ∃ a, a = A1 k := ⟨_, rfl⟩
      obtain ⟨a2, ha2⟩ : ∃ a, a = A2 k := ⟨_, rfl⟩
      rw [← ha1] at i1 hq r1 HI1
      rw [← ha2] at i2 hq r2 HI2
      clear hc1 hc2 hbw ha1 ha2
      subst ho1 ho2
      rename World => wo
      go_wp2
      go_quiet (fail)
      clear q56 q53
      go_wp2
      clear hq
      go_loopw [6] (fun i wr => ∃ j : Nat, j ≤ L k ∧ i = .int .i64 j ∧ Below w.heap.size w wr) (fun i _ => L k - (intOf i).toNat)
      case atStart => exact ⟨0, Nat.zero_le _, rfl, below_drewN HBW.out _⟩
      case round =>
        obtain ⟨j, hj, rfl, hbr⟩ := hrel
        have k1 : wr.cell? ⟨b1, off1 + k, none⟩ = some (.slice a1 (L k) (C1 k)) := (hbr.cell (World.block_lt_of_cell? w _ HI1.out)).trans HI1.out
        have k2 : wr.cell? ⟨b2, off2 + k, none⟩ = some (.slice a2 (L k) (C2 k)) := (hbr.cell (World.block_lt_of_cell? w _ HI2.out)).trans HI2.out
        clear i1 i2
        by_cases hlt2 : j < L k
        · obtain ⟨hz1, hr1⟩ := r1.out
          obtain ⟨_, hr2⟩ := r2.out
          rcases hr1 with hz | ⟨b3, off3, ho3, _, hc3⟩
          · simp [hz] at hz1; omega
          rcases hr2 with hz | ⟨b4, off4, ho4, _, hc4⟩
          · simp [hz] at hz1; omega
          have cj : ∀ q, q < 3 * L k → wr.cell? ⟨b3, off3 + q, none⟩ = some (.int .i64 ((Z k).getD q 0)) := fun q hq => (hbr.cell (World.block_lt_of_cell? w _ (hc3 q (by omega)))).trans (hc3 q (by omega))
          have dj : ∀ q, q < 3 * L k → wr.cell? ⟨b4, off4 + q, none⟩ = some (.int .i64 ((Z k).getD q 0)) := fun q hq => (hbr.cell (World.block_lt_of_cell? w _ (hc4 q (by omega)))).trans (hc4 q (by omega))
          obtain ⟨x0, hx0⟩ : ∃ x, x = (Z k).getD (3 * j) 0 := ⟨_, rfl⟩
          obtain ⟨x1, hx1⟩ : ∃ x, x = (Z k).getD (3 * j + 1) 0 := ⟨_, rfl⟩
          obtain ⟨x2, hx2⟩ : ∃ x, x = (Z k).getD (3 * j + 2) 0 := ⟨_, rfl⟩
          have c0 : wr.cell? ⟨b3, off3 + j * 3, none⟩ = some (.int .i64 x0) := by rw [hx0, Nat.mul_comm j 3]; exact cj _ (by omega)
          have c1 : wr.cell? ⟨b3, off3 + j * 3 + 1, none⟩ = some (.int .i64 x1) := by rw [hx1, Nat.mul_comm j 3, Nat.add_assoc]; exact cj _ (by omega)
          have c2 : wr.cell? ⟨b3, off3 + j * 3 + 2, none⟩ = some (.int .i64 x2) := by rw [hx2, Nat.mul_comm j 3, Nat.add_assoc]; exact cj _ (by omega)
          have e0 : wr.cell? ⟨b4, off4 + j * 3, none⟩ = some (.int .i64 x0) := by rw [hx0, Nat.mul_comm j 3]; exact dj _ (by omega)
          have e1 : wr.cell? ⟨b4, off4 + j * 3 + 1, none⟩ = some (.int .i64 x1) := by rw [hx1, Nat.mul_comm j 3, Nat.add_assoc]; exact dj _ (by omega)
          have e2 : wr.cell? ⟨b4, off4 + j * 3 + 2, none⟩ = some (.int .i64 x2) := by rw [hx2, Nat.mul_comm j 3, Nat.add_assoc]; exact dj _ (by omega)
          have l2 : b2 < wr.heap.size := World.block_lt_of_cell? wr _ k2
          have l4 : b4 < wr.heap.size := World.block_lt_of_cell? wr _ e0
          have hw := hbr.size
          have HBR := hid hbr
          subst ho3 ho4
          clear cj dj hc3 hc4 hx0 hx1 hx2 hbr r1 r2
          go_wp2
          go_roundw
          case rel => exact ⟨j + 1, by omega, by go_num, (HBR.out.alloc hw _).alloc (by simp; omega) _⟩
          case measure => simp [intOf]; omega
        · have HBR := hid hbr
          clear hbr r1 r2
          go_wp2
          go_roundw
          case rel => exact ⟨k + 1, by omega, by go_num, HBR.out⟩
          case measure => simp [intOf]; omega
    · go_wp2
      go_ret
      exact ⟨rfl, hbw⟩
end Go.Proofs.Qxb6617182a
