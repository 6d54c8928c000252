import Derived.Test.Qxb6617182aProg
import Derived.Test.Qxb6617182aBase
import Derived.Lib.SliceRun
namespace Go.Proofs.Qxb6617182a
open Go.RowKit Go.Deep

theorem Try.info3 : (Try.prog.info? 3).map (fun i => (i.zero, i.size, i.bytes)) = some (some (.int .i64 0), 1, 8) := by kernel_rfl
theorem Try.info40 : (Try.prog.info? 40).map (fun i => (i.zero, i.size, i.bytes)) = some (some (.slice none 0 0), 1, 24) := by kernel_rfl
theorem Try.info4 : (Try.prog.info? 4).map (fun i => (i.zero, i.size, i.bytes)) = some (some (.bool false), 1, 1) := by kernel_rfl

theorem eqlnil40 (w : World) (a : Option Addr) (n c : Nat) : (binOp .eql 40 (.slice a n c) (.slice none 0 0)).run Try.prog w = .ok (.bool a.isNone) w := Lib.run_eql_slice_nil w 40 3 a n c 0 0 Try.underlying40
theorem eqlnil22 (w : World) (a : Option Addr) (n c : Nat) : (binOp .eql 22 (.slice a n c) (.slice none 0 0)).run Try.prog w = .ok (.bool a.isNone) w := Lib.run_eql_slice_nil w 22 40 a n c 0 0 Try.underlying22
theorem eqlnil23 (w : World) (a : Option Addr) (n c : Nat) : (binOp .eql 23 (.slice a n c) (.slice none 0 0)).run Try.prog w = .ok (.bool a.isNone) w := Lib.run_eql_slice_nil w 23 53 a n c 0 0 Try.underlying23
theorem eqlnil53 (w : World) (a : Option Addr) (n c : Nat) : (binOp .eql 53 (.slice a n c) (.slice none 0 0)).run Try.prog w = .ok (.bool a.isNone) w := Lib.run_eql_slice_nil w 53 55 a n c 0 0 Try.underlying53

/-- What lawCopyInts leaves: a slice of the same numbers in new memory; nil of nil. -/
def CopiedInts (o : Option Addr) (zs : List Int) (w : World) (e : Ending) (w' : World) : Prop :=
  ∃ o' c', e = .returned (.slice o' zs.length c') ∧ (o' = none ↔ o = none) ∧ Below w.heap.size w w' ∧ IntsP (fun b => w.heap.size ≤ b) w' o' zs

set_option maxHeartbeats 1000000 in
theorem copyInts_any (o : Option Addr) (c : Nat) (zs : List Int) (w : World) (h : IntsAt w o zs) (hm : zs.length ≤ 1048576) :
    Calls Try.prog 34 #[.slice o zs.length c] w (CopiedInts o zs w) := by
  cases o with
  | none =>
    obtain rfl : zs = [] := by
      rcases h with h | ⟨b, off, ho, _⟩
      · exact h
      · cases ho
    have hq := eqlnil40
    go_enter Try.func34, Try.ntmps34
    go_wp2
    go_ret
    exact ⟨none, 0, rfl, Iff.rfl, Below.refl _ _, Or.inl rfl⟩
  | some a =>
    have hq := eqlnil40
    have hmk := run_make_row' (P := Try.prog) 40 3 (.int .i64 0) 8 Try.underlying40 Try.info3 rfl .i64 .i64 zs.length (by omega) (by omega)
    go_enter Try.func34, Try.ntmps34
    go_wp2
    clear hq hmk
    go_loopw [4] (fun i wr => ∃ k : Nat, k ≤ zs.length ∧ i = .int .i64 k ∧ Below w.heap.size w wr ∧ w.heap.size < wr.heap.size ∧ wr.rowIs w.heap.size 3 zs.length (fun j => .int .i64 (if j < k then zs.getD j 0 else 0)))
      (fun i _ => zs.length - (intOf i).toNat)
    case atStart => 
      refine ⟨0, Nat.zero_le _, rfl, (Below.refl _ _).alloc (Nat.le_refl _) _, by simp, ?_⟩
      exact (World.rowIs_made w (.int .i64 0) zs.length 3).congr (fun i _ => by simp)
    case round =>
      obtain ⟨k, hk, rfl, hb, hs, hr⟩ := hrel
      by_cases hlt : k < zs.length
      · rcases h with h | ⟨b, off, ho, hc⟩
        · simp [h] at hlt
        obtain rfl : a = ⟨b, off, none⟩ := by simpa using ho
        have hcell : wr.cell? ⟨b, off + k, none⟩ = some (.int .i64 (zs.getD k 0)) := (hb.cell (World.block_lt_of_cell? w _ (hc k hlt))).trans (hc k hlt)
        have hold := hr.cell hlt
        have hfr := hr.frozen k
        have H := hid hr
        clear ho hc hr
        go_wp2
        go_roundw
        case rel =>
          refine ⟨k + 1, by omega, by go_num, hb.setCell (Nat.le_refl _) _, by simpa using hs, ?_⟩
          refine (H.out.set k _).congr fun j hj => ?_
          by_cases e : j = k
          · subst e; simp [hlt]
          · simp only [e, if_false, show (j < k + 1) = (j < k) from by rw [eq_iff_iff]; omega]
        case measure => simp [intOf]; omega
      · have H := hid hr
        clear hr h
        go_wp2
        go_ret
        refine ⟨some ⟨w.heap.size, 0, none⟩, zs.length, rfl, by simp, hb, IntsP.row (t := 3) (H.out.congr fun j hj => ?_) (Nat.le_refl _)⟩
        rw [if_pos (by omega)]
end Go.Proofs.Qxb6617182a
