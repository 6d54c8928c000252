/-
  SEAT b6617257a: plain words about bytes in memory, and the copy that the laws make first.
-/
import Derived.Test.Qxb6617257aProg
import Derived.WalkKit
import Derived.Deep.OwnRows
import Derived.Laws.CopyOwn
import Derived.WalkSpells
import Derived.Lib.SliceRun
namespace Go.Proofs.Qxb6617257a
open Go.RowKit Go.Deep

theorem hid {p : Prop} (h : p) : Hid p := h

/-- A slice of bytes as it lies in memory. -/
def BytesAt (w : World) (o : Option Addr) (zs : List Int) : Prop :=
  zs = [] ∨ ∃ b off, o = some ⟨b, off, none⟩ ∧ ∀ i, i < zs.length → w.cell? ⟨b, off + i, none⟩ = some (.int .u8 (zs.getD i 0))

theorem BytesAt.below {w w' : World} {o : Option Addr} {zs : List Int} (h : BytesAt w o zs) (hb : Below w.heap.size w w') : BytesAt w' o zs := by
  rcases h with h | ⟨b, off, ho, hc⟩
  · exact Or.inl h
  · exact Or.inr ⟨b, off, ho, fun i hi => (hb.cell (World.block_lt_of_cell? w _ (hc i hi))).trans (hc i hi)⟩

theorem BytesAt.row {w : World} {b : Nat} {t : TypeId} {zs : List Int} (h : w.rowIs b t zs.length (fun i => .int .u8 (zs.getD i 0))) : BytesAt w (some ⟨b, 0, none⟩) zs :=
  Or.inr ⟨b, 0, rfl, fun i hi => by rw [Nat.zero_add]; exact h.cell hi⟩

theorem BytesAt.take {w : World} {o : Option Addr} {zs : List Int} (h : BytesAt w o zs) (n : Nat) : BytesAt w o (zs.take n) := by
  rcases h with h | ⟨b, off, ho, hc⟩
  · exact Or.inl (by rw [h]; simp)
  · refine Or.inr ⟨b, off, ho, fun i hi => ?_⟩
    rw [List.length_take] at hi
    rw [hc i (by omega)]
    simp [List.getD, show i < n by omega]

theorem Try.info5 : (Try.prog.info? 5).map (fun i => (i.zero, i.size, i.bytes)) = some (some (.int .u8 0), 1, 1) := by kernel_rfl
theorem Try.size5 : (Try.prog.info? 5).map (·.size) = some 1 := by kernel_rfl

theorem neqnil22 (w : World) (a : Option Addr) (n c : Nat) : (binOp .neq 22 (.slice a n c) (.slice none 0 0)).run Try.prog w = .ok (.bool a.isSome) w := by
  have := run_neq_slice_nil_any (P := Try.prog) w 22 5 a n c 0 0 Try.underlying22
  simpa using this

/-- 'copy(zzc, a)' into the row that make has just laid. -/
theorem run_copyAll (w0 : World) (o : Option Addr) (c : Nat) (zs : List Int) (h : BytesAt w0 o zs) :
    ∃ w', (Builtin.copy_ #[22, 22] 3 #[.slice (some ⟨w0.heap.size, 0, none⟩) zs.length zs.length, .slice o zs.length c]).run Try.prog (w0.alloc (.cells (madeCells #[.int .u8 0] zs.length) 5)) = .ok (.int .i64 zs.length) w'
      ∧ Below w0.heap.size w0 w' ∧ BytesAt w' (some ⟨w0.heap.size, 0, none⟩) zs := by
  have hb : Below w0.heap.size w0 (w0.alloc (.cells (madeCells #[.int .u8 0] zs.length) 5)) := (Below.refl _ _).alloc (Nat.le_refl _) _
  have hlen : (zs.map (Value.int .u8)).length = zs.length := by simp
  by_cases h0 : zs.length = 0
  · refine ⟨_, ?_, hb, Or.inl (List.eq_nil_of_length_eq_zero h0)⟩
    have := run_copy_none (P := Try.prog) (w0.alloc (.cells (madeCells #[.int .u8 0] zs.length) 5)) 22 22 3 5 (some ⟨w0.heap.size, 0, none⟩) o zs.length zs.length zs.length c Try.underlying22 Try.size5 (by rw [h0]; rfl)
    rw [this, h0]
    rfl
  · rcases (h.below hb) with hz | ⟨b, off, rfl, hc⟩
    · simp [hz] at h0
    have hg : (w0.alloc (.cells (madeCells #[.int .u8 0] zs.length) 5)).heap[w0.heap.size]? = some (.cells (madeCells #[.int .u8 0] zs.length) 5 (0, 0)) := blk_alloc_new w0 _
    have hrun := run_copy_row (P := Try.prog) (w0.alloc (.cells (madeCells #[.int .u8 0] zs.length) 5)) 22 22 3 5 w0.heap.size 0 zs.length zs.length ⟨b, off, none⟩ zs.length c (madeCells #[.int .u8 0] zs.length) 5 (zs.map (Value.int .u8)) Try.underlying22 Try.size5 hg
      (by rw [hlen]; exact (Nat.min_self _).symm) (fun j v hj => by
        have hjl : j < zs.length := by
          have := (List.getElem?_eq_some_iff.1 hj).1
          simpa using this
        rw [Addr.add_lit, hc j hjl]
        rw [← hj]
        simp [List.getD, hjl]) (by rw [hlen]; simp [size_madeCells]) (fun v hv => by
        obtain ⟨_, _, rfl⟩ := List.mem_map.1 hv; rfl)
    rw [hlen] at hrun
    refine ⟨_, hrun, below_setRow hb (Nat.le_refl _) _, BytesAt.row (t := 5) ?_⟩
    refine ⟨_, setRow_heap _ _ _ _ _ _ hg, ?_, fun i hi => ?_⟩
    · simp [size_madeCells]
    · simp [size_madeCells, hi, List.getD]

end Go.Proofs.Qxb6617257a
