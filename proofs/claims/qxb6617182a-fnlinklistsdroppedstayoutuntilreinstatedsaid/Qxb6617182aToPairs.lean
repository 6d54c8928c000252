import Derived.Test.Qxb6617182aCopyPairs
import Derived.BigRegion
namespace Go.Proofs.Qxb6617182a
open Go.RowKit Go.Deep

theorem Try.info56 : (Try.prog.info? 56).map (fun i => (i.zero, i.size, i.bytes)) = some (some (.slice none 0 0), 1, 24) := by kernel_rfl
theorem Try.info57 : (Try.prog.info? 57).map (fun i => (i.zero, i.size, i.bytes)) = some (some (.agg #[.int .i64 0, .int .i64 0, .int .i64 0]), 3, 24) := by kernel_rfl

set_option maxHeartbeats 1000000 in
theorem toPairs_any (o : Option Addr) (n c : Nat) (A : Nat → Option Addr) (L C : Nat → Nat) (Z : Nat → List Int) (w : World) (h : PMatP (fun _ => True) w o n A L C Z) (hn : n ≤ 1048576) (hm : ∀ r, r < n → L r ≤ 1048576) :
    Calls Try.prog 12 #[.slice o n c] w (CopiedPairs o n A L Z w) := by
  cases o with
  | none =>
    obtain rfl : n = 0 := by
      rcases h.1 with h | ⟨b, off, ho, _⟩
      · exact h
      · cases ho
    have hq := eqlnil23
    go_enter Try.func12, Try.ntmps12
    go_wp2
    go_ret
    exact ⟨none, 0, A, C, rfl, Iff.rfl, Below.refl _ _, ⟨Or.inl rfl, fun r hr => by omega⟩, fun r hr => by omega⟩
  | some a =>
    have hq := eqlnil23
    have hmk := run_make_row' (P := Try.prog) 31 56 (.slice none 0 0) 24 Try.underlying31 Try.info56 rfl .i64 .i64 n (by omega) (by omega)
    go_enter Try.func12, Try.ntmps12
    go_wp2
    clear hq hmk
    go_loopw [4] (fun i wr => ∃ (k : Nat) (A' : Nat → Option Addr) (C' : Nat → Nat), k ≤ n ∧ i = .int .i64 k ∧ CopyPairsAt w.heap.size n k 56 A L Z A' C' w wr)
      (fun i _ => n - (intOf i).toNat)
    case atStart =>
      refine ⟨0, A, C, Nat.zero_le _, rfl, (Below.refl _ _).alloc (Nat.le_refl _) _, by simp, ?_, fun r hr => by omega, fun r hr => by omega⟩
      exact (World.rowIs_made w (.slice none 0 0) n 56).congr (fun i _ => by simp)
    case round =>
      obtain ⟨k, A', C', hk, rfl, hst⟩ := hrel
      rename World => wo
      by_cases hlt : k < n
      · obtain ⟨h1, h2⟩ := h
        rcases h1 with h1 | ⟨b, off, ho, _, hc⟩
        · omega
        obtain rfl : a = ⟨b, off, none⟩ := by simpa using ho
        have hck : w.cell? ⟨b, off + k, none⟩ = some (.slice (A k) (L k) (C k)) := hc k hlt
        have hcell : wo.cell? ⟨b, off + k, none⟩ = some (.slice (A k) (L k) (C k)) := (hst.below.cell (World.block_lt_of_cell? w _ hck)).trans hck
        obtain ⟨hzl, hrow0⟩ := h2 k hlt
        have hrow : IntsAt wo (A k) (Z k) := hrow0.at.below hst.below
        have hml := hm k hlt
        clear ho hc hm h2 hrow0
        have hq := eqlnil53
        have hmk := run_make3 Try.prog 56 57 Try.underlying56 Try.info57 (L k) hml
        cases hA : A k with
        | none =>
          obtain ⟨hZ, hL0⟩ : Z k = [] ∧ L k = 0 := by
            rcases hrow with hrow | ⟨b3, off3, ho3, _⟩
            · exact ⟨hrow, by simp [hrow] at hzl; omega⟩
            · rw [hA] at ho3; cases ho3
          have H := hid (hst.skip hA hL0 hZ)
          rw [hA] at hcell
          clear hst hck hA hZ hrow hL0
          go_wp2
          go_roundw
          case rel => exact ⟨k + 1, _, _, by omega, by go_num, H.out⟩
          case measure => simp [intOf]; omega
        | some a1 =>
          have HA := hid (show A k ≠ none by simp [hA])
          rw [hA] at hcell hrow
          have H := hid hst
          clear hst hck
          go_wp2
          clear hq hmk
          go_loopw [6] (fun i w2 => ∃ j : Nat, j ≤ L k ∧ i = .int .i64 j ∧ Below wo.heap.size wo w2 ∧ wo.heap.size < w2.heap.size ∧ w2.rowIs wo.heap.size 57 (L k * 3) (fun q => .int .i64 (if q < 3 * j then (Z k).getD q 0 else 0)))
            (fun i _ => L k - (intOf i).toNat)
          case atStart =>
            refine ⟨0, Nat.zero_le _, rfl, (Below.refl _ _).alloc (Nat.le_refl _) _, by simp, ?_⟩
            exact (World.rowIs_made3 wo (L k) 57).congr (fun i _ => by simp)
          case round =>
            obtain ⟨j, hj, rfl, hb2, hs2, hr2⟩ := hrel
            have hcell2 : wr.cell? ⟨b, off + k, none⟩ = some (.slice (some a1) (L k) (C k)) := (hb2.cell (World.block_lt_of_cell? wo _ hcell)).trans hcell
            by_cases hlt2 : j < L k
            · rcases hrow with hrow | ⟨b3, off3, ho3, hc3⟩
              · simp [hrow] at hzl; omega
              obtain rfl : a1 = ⟨b3, off3, none⟩ := by simpa using ho3
              have cj : ∀ q, q < 3 * L k → wr.cell? ⟨b3, off3 + q, none⟩ = some (.int .i64 ((Z k).getD q 0)) := fun q hq => (hb2.cell (World.block_lt_of_cell? wo _ (hc3 q (by omega)))).trans (hc3 q (by omega))
              obtain ⟨x0, hx0⟩ : ∃ x, x = (Z k).getD (3 * j) 0 := ⟨_, rfl⟩
              obtain ⟨x1, hx1⟩ : ∃ x, x = (Z k).getD (3 * j + 1) 0 := ⟨_, rfl⟩
              obtain ⟨x2, hx2⟩ : ∃ x, x = (Z k).getD (3 * j + 2) 0 := ⟨_, rfl⟩
              have c0 : wr.cell? ⟨b3, off3 + j * 3, none⟩ = some (.int .i64 x0) := by rw [hx0, Nat.mul_comm j 3]; exact cj _ (by omega)
              have c1 : wr.cell? ⟨b3, off3 + j * 3 + 1, none⟩ = some (.int .i64 x1) := by rw [hx1, Nat.mul_comm j 3, Nat.add_assoc]; exact cj _ (by omega)
              have c2 : wr.cell? ⟨b3, off3 + j * 3 + 2, none⟩ = some (.int .i64 x2) := by rw [hx2, Nat.mul_comm j 3, Nat.add_assoc]; exact cj _ (by omega)
              have d0 := hr2.cell (i := j * 3) (by omega)
              have d1 := hr2.cell (i := j * 3 + 1) (by omega)
              have d2 := hr2.cell (i := j * 3 + 2) (by omega)
              have f0 := hr2.frozen (j * 3)
              have f1 := hr2.frozen (j * 3 + 1)
              have f2 := hr2.frozen (j * 3 + 2)
              have HR := row_step3 hr2
              rw [← hx0, ← hx1, ← hx2] at HR
              have HR' := hid HR
              clear cj hc3 hr2 HR hx0 hx1 hx2 ho3 hA
              go_wp2
              go_region
              go_wp2
              go_roundw
              case rel => exact ⟨j + 1, by omega, by go_num, (((hb2.setCell (Nat.le_refl _) _).setCell (Nat.le_refl _) _).setCell (Nat.le_refl _) _).drew, by simpa using hs2, HR'.out.drew⟩
              case measure => simp [intOf]; omega
            · obtain rfl : j = L k := by omega
              have hst := H.out
              have hst' := hst.step HA.out hb2 hs2 hzl hr2 (c' := L k)
              have hr1 := hst.row.of_block (hb2.block _ hst.size)
              have hold := hr1.cell hlt
              have hfr := hr1.frozen k
              have H' := hid hst'
              clear hst' hr1 hst hrow hr2 hA
              go_wp2
              go_roundw
              case rel => exact ⟨k + 1, _, _, by omega, by go_num, H'.out⟩
              case measure => simp [intOf]; omega
      · have H := hid hst
        have H2 := hid h.2
        clear hst h
        obtain rfl : k = n := by omega
        go_wp2
        go_ret
        have hst := H.out
        refine ⟨some ⟨w.heap.size, 0, none⟩, k, A', C', rfl, by simp, hst.below, ⟨Or.inr ⟨w.heap.size, 0, rfl, Nat.le_refl _, fun r hr => ?_⟩, fun r hr => ⟨(H2.out r hr).1, ?_⟩⟩, hst.nils⟩
        · rw [Nat.zero_add, hst.row.cell hr, if_pos hr]
        · exact (hst.rows r hr).keep (fun _ _ _ => rfl) (fun b hb _ => by omega)
end Go.Proofs.Qxb6617182a
