import Derived.Test.Qxb6617182aCopyInts
namespace Go.Proofs.Qxb6617182a
open Go.RowKit Go.Deep

/-- What lawCopyNext leaves: the same rows in new memory; nil of nil, at both levels. -/
def CopiedMat (o : Option Addr) (n : Nat) (A : Nat → Option Addr) (Z : Nat → List Int) (w : World) (e : Ending) (w' : World) : Prop :=
  ∃ o' c' A' C', e = .returned (.slice o' n c') ∧ (o' = none ↔ o = none) ∧ Below w.heap.size w w' ∧ MatP (fun b => w.heap.size ≤ b) w' o' n A' C' Z ∧ ∀ r, r < n → (A' r = none ↔ A r = none)

/-- The state of the loop: k rows are copied; the outer row is block B. -/
structure CopyNextAt (B n k : Nat) (A : Nat → Option Addr) (Z : Nat → List Int) (A' : Nat → Option Addr) (C' : Nat → Nat) (w wr : World) : Prop where
  below : Below B w wr
  size : B < wr.heap.size
  row : wr.rowIs B 40 n (fun r => if r < k then .slice (A' r) (Z r).length (C' r) else .slice none 0 0)
  rows : ∀ r, r < k → IntsP (fun b => B < b) wr (A' r) (Z r)
  nils : ∀ r, r < k → (A' r = none ↔ A r = none)

theorem CopyNextAt.step {B n k : Nat} {A : Nat → Option Addr} {Z : Nat → List Int} {A' : Nat → Option Addr} {C' : Nat → Nat} {w wr w1 : World} (h : CopyNextAt B n k A Z A' C' w wr)
    {o' : Option Addr} {c' : Nat} (hn : o' = none ↔ A k = none) (hb : Below wr.heap.size wr w1) (hi : IntsP (fun b => wr.heap.size ≤ b) w1 o' (Z k)) :
    CopyNextAt B n (k + 1) A Z (fun r => if r = k then o' else A' r) (fun r => if r = k then c' else C' r) w (w1.setCell ⟨B, k, none⟩ (.slice o' (Z k).length c')) := by
  have hs := h.size
  have keepB : ∀ b, B < b → (w1.setCell ⟨B, k, none⟩ (.slice o' (Z k).length c')).heap[b]? = w1.heap[b]? := fun b hb' => Below.heap_setCell _ _ _ _ (by simp; omega)
  refine ⟨(h.below.trans (hb.mono (by omega))).setCell (Nat.le_refl _) _, ?_, ?_, fun r hr => ?_, fun r hr => ?_⟩
  · have := hb.size; simp; omega
  · refine ((h.row.of_block (hb.block B hs)).set k _).congr fun j hj => ?_
    by_cases e : j = k
    · subst e; simp
    · simp only [e, if_false, show (j < k + 1) = (j < k) from by rw [eq_iff_iff]; omega]
  · by_cases e : r = k
    · subst e
      simp only [if_true]
      exact hi.keep (fun b hb' _ => keepB b (by omega)) (fun b hb' _ => by omega)
    · simp only [e, if_false]
      exact (h.rows r (by omega)).keep (fun b hb' hl => (keepB b hb').trans (hb.block b hl)) (fun b hb' _ => hb')
  · by_cases e : r = k
    · subst e
      simpa using hn
    · simp only [e, if_false]
      exact h.nils r (by omega)

set_option maxHeartbeats 1000000 in
theorem copyNext_any (o : Option Addr) (n c : Nat) (A : Nat → Option Addr) (C : Nat → Nat) (Z : Nat → List Int) (w : World) (h : MatAt w o n A C Z) (hn : n ≤ 1048576) (hm : ∀ r, r < n → (Z r).length ≤ 1048576) :
    Calls Try.prog 9 #[.slice o n c] w (CopiedMat o n A Z w) := by
  cases o with
  | none =>
    obtain rfl : n = 0 := by
      rcases h.1 with h | ⟨b, off, ho, _⟩
      · exact h
      · cases ho
    have hq := eqlnil22
    go_enter Try.func9, Try.ntmps9
    go_wp2
    go_ret
    exact ⟨none, 0, A, C, rfl, Iff.rfl, Below.refl _ _, ⟨Or.inl rfl, fun r hr => by omega⟩, fun r hr => by omega⟩
  | some a =>
    have hq := eqlnil22
    have hmk := run_make_row' (P := Try.prog) 22 40 (.slice none 0 0) 24 Try.underlying22 Try.info40 rfl .i64 .i64 n (by omega) (by omega)
    go_enter Try.func9, Try.ntmps9
    go_wp2
    clear hq hmk
    go_loopw [4] (fun i wr => ∃ (k : Nat) (A' : Nat → Option Addr) (C' : Nat → Nat), k ≤ n ∧ i = .int .i64 k ∧ CopyNextAt w.heap.size n k A Z A' C' w wr)
      (fun i _ => n - (intOf i).toNat)
    case atStart =>
      refine ⟨0, A, C, Nat.zero_le _, rfl, (Below.refl _ _).alloc (Nat.le_refl _) _, by simp, ?_, fun r hr => by omega, fun r hr => by omega⟩
      exact (World.rowIs_made w (.slice none 0 0) n 40).congr (fun i _ => by simp)
    case round =>
      obtain ⟨k, A', C', hk, rfl, hst⟩ := hrel
      by_cases hlt : k < n
      · obtain ⟨h1, h2⟩ := h
        rcases h1 with h1 | ⟨b, off, ho, hc⟩
        · omega
        obtain rfl : a = ⟨b, off, none⟩ := by simpa using ho
        have hck : w.cell? ⟨b, off + k, none⟩ = some (.slice (A k) (Z k).length (C k)) := hc k hlt
        have hcell : wr.cell? ⟨b, off + k, none⟩ = some (.slice (A k) (Z k).length (C k)) := (hst.below.cell (World.block_lt_of_cell? w _ hck)).trans hck
        have hrow : IntsAt wr (A k) (Z k) := (h2 k hlt).below hst.below
        have hml := hm k hlt
        clear ho hc hm h2 hck
        go_wp2_with fail
        refine (copyInts_any (A k) (C k) (Z k) wr hrow hml).mono ?_
        rintro e w1 ⟨o', c', rfl, hnil, hb1, hi1⟩
        have hst' := hst.step hnil hb1 hi1 (c' := c')
        have hr1 := hst.row.of_block (hb1.block _ hst.size)
        have hold := hr1.cell hlt
        have hfr := hr1.frozen k
        have H := hid hst'
        clear hst' hr1 hnil hi1 hst hrow hcell
        go_wp2
        go_roundw
        case rel => exact ⟨k + 1, _, _, by omega, by go_num, H.out⟩
        case measure => simp [intOf]; omega
      · have H := hid hst
        clear hst h
        obtain rfl : k = n := by omega
        go_wp2
        go_ret
        have hst := H.out
        refine ⟨some ⟨w.heap.size, 0, none⟩, k, A', C', rfl, by simp, hst.below, ⟨Or.inr ⟨w.heap.size, 0, rfl, Nat.le_refl _, fun r hr => ?_⟩, fun r hr => ?_⟩, hst.nils⟩
        · rw [Nat.zero_add, hst.row.cell hr, if_pos hr]
        · exact (hst.rows r hr).keep (fun _ _ _ => rfl) (fun b hb _ => by omega)
end Go.Proofs.Qxb6617182a
