/-
  SEAT b6617257a: joinBytes (8).
-/
import Derived.Test.Qxb6617257aProg
import Derived.Test.Qxb6617257aBase
namespace Go.Proofs.Qxb6617257a
open Go.RowKit Go.Deep

/-- The two, one behind the other, in new memory. -/
def Joined (xs ys : List Int) (w : World) (e : Ending) (w' : World) : Prop :=
  ∃ o' c', e = .returned (.slice o' (xs ++ ys).length c') ∧ Below w.heap.size w w' ∧ BytesAt w' o' (xs ++ ys)

set_option maxHeartbeats 2000000 in
theorem join_any (o p : Option Addr) (c d : Nat) (xs ys : List Int) (w : World) (h1 : BytesAt w o xs) (h2 : BytesAt w p ys) (m1 : xs.length ≤ 1048576) (m2 : ys.length ≤ 1048576) :
    Calls Try.prog 8 #[.slice o xs.length c, .slice p ys.length d] w (Joined xs ys w) := by
  have hmk : ∀ w, (Instr.makeSlice 22 (.int .i64 ((xs.length : Int) + (ys.length : Int))) (.int .i64 ((xs.length : Int) + (ys.length : Int)))).run Try.prog w = .ok (.slice (some ⟨w.heap.size, 0, none⟩) (xs.length + ys.length) (xs.length + ys.length)) (w.alloc (.cells (madeCells #[.int .u8 0] (xs.length + ys.length)) 5)) := by
    intro w
    rw [← Int.natCast_add]
    exact run_make_row' (P := Try.prog) 22 5 (.int .u8 0) 1 Try.underlying22 Try.info5 rfl .i64 .i64 (xs.length + ys.length) (by omega) (by omega) w
  have H1 := hid h1
  have H2 := hid h2
  clear h1 h2
  go_enter Try.func8, Try.ntmps8
  go_wp2
  clear hmk
  go_loopw [6] (fun i wr => ∃ k : Nat, k ≤ xs.length ∧ i = .int .i64 k ∧ Below w.heap.size w wr ∧ Hid (wr.rowIs w.heap.size 5 (xs.length + ys.length) (fun j => .int .u8 (if j < k then (xs ++ ys).getD j 0 else 0))))
      (fun i _ => xs.length - (intOf i).toNat)
  case atStart =>
    refine ⟨0, Nat.zero_le _, rfl, (Below.refl _ _).alloc (Nat.le_refl _) _, hid ?_⟩
    exact (World.rowIs_made w (.int .u8 0) (xs.length + ys.length) 5).congr (fun i _ => by simp)
  case round =>
    obtain ⟨k, hk, rfl, hb, hr⟩ := hrel
    by_cases hlt : k < xs.length
    · rcases H1.out.below hb with h | ⟨b, off, ho, hc⟩
      · simp [h] at hlt
      subst ho
      obtain ⟨x, hx⟩ : ∃ x, x = xs.getD k 0 := ⟨_, rfl⟩
      have hcell : wr.cell? ⟨b, off + k, none⟩ = some (.int .u8 x) := by rw [hx]; exact hc k hlt
      have hold := hr.out.cell (i := k) (by omega)
      have hfr := hr.out.frozen k
      have hI : (k : Int) < (xs.length : Int) := by omega
      have hI2 : (k : Int) < (xs.length : Int) + (ys.length : Int) := by omega
      have HX := hid hx
      clear hc hx
      go_wp2
      go_roundw
      case rel =>
        refine ⟨k + 1, by omega, by go_num, hb.setCell (Nat.le_refl _) _, hid ?_⟩
        refine (hr.out.set k _).congr fun j hj => ?_
        by_cases e : j = k
        · subst e; simp [HX.out, hlt, List.getD, List.getElem?_append_left hlt]
        · simp only [e, if_false, show (j < k + 1) = (j < k) from by rw [eq_iff_iff]; omega]
      case measure => simp [intOf]; omega
    · have hke : k = xs.length := by omega
      have HE := hid hke
      clear hke
      rename World => wo
      go_wp2
      go_loopw [7] (fun i wr => ∃ k' : Nat, k' ≤ ys.length ∧ i = .int .i64 k' ∧ Below w.heap.size w wr ∧ Hid (wr.rowIs w.heap.size 5 (xs.length + ys.length) (fun j => .int .u8 (if j < xs.length + k' then (xs ++ ys).getD j 0 else 0))))
          (fun i _ => ys.length - (intOf i).toNat)
      case atStart =>
        refine ⟨0, Nat.zero_le _, rfl, hb, hid ?_⟩
        rw [HE.out] at hr
        exact hr.out
      case round =>
        obtain ⟨k', hk', rfl, hb', hr'⟩ := hrel
        by_cases hlt' : k' < ys.length
        · rcases H2.out.below hb' with h | ⟨b, off, ho, hc⟩
          · simp [h] at hlt'
          subst ho
          obtain ⟨x, hx⟩ : ∃ x, x = ys.getD k' 0 := ⟨_, rfl⟩
          have hcell : wr.cell? ⟨b, off + k', none⟩ = some (.int .u8 x) := by rw [hx]; exact hc k' hlt'
          have hold := hr'.out.cell (i := xs.length + k') (by omega)
          have hfr := hr'.out.frozen (xs.length + k')
          have hI : (k' : Int) < (ys.length : Int) := by omega
          have hI2 : 0 ≤ (xs.length : Int) + (k' : Int) ∧ (xs.length : Int) + (k' : Int) < (xs.length : Int) + (ys.length : Int) := by omega
          have HX := hid hx
          clear hc hx
          go_wp2
          go_roundw
          case rel =>
            refine ⟨k' + 1, by omega, by go_num, hb'.setCell (Nat.le_refl _) _, hid ?_⟩
            refine (hr'.out.set (xs.length + k') _).congr fun j hj => ?_
            by_cases e : j = xs.length + k'
            · subst e; simp [HX.out, hlt', List.getD]
            · simp only [e, if_false, show (j < xs.length + (k' + 1)) = (j < xs.length + k') from by rw [eq_iff_iff]; omega]
          case measure => simp [intOf]; omega
        · go_wp2
          go_ret
          refine ⟨some ⟨w.heap.size, 0, none⟩, xs.length + ys.length, by rw [List.length_append]; rfl, hb', BytesAt.row (t := 5) ?_⟩
          rw [List.length_append]
          refine hr'.out.congr fun j hj => ?_
          rw [if_pos (by omega)]
end Go.Proofs.Qxb6617257a
