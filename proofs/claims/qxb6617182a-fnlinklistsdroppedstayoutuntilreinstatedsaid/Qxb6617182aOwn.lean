/-
  SEAT b6617182a: a slice of ints that the program itself builds by append, one number at a time.
-/
import Derived.Test.Qxb6617182aCopyInts
namespace Go.Proofs.Qxb6617182a
open Go.RowKit Go.Deep

/-- The slice value '.slice o xs.length c' owns the numbers xs: nil and empty, or at the head of a row of c cells. -/
def OwnInts (w : World) (o : Option Addr) (c : Nat) (xs : List Int) : Prop :=
  w.ownsRow 0 3 1 (.slice o xs.length c) xs.length (xs.map (Value.int .i64))

theorem OwnInts.nil (w : World) : OwnInts w none 0 [] := World.ownsRow_nil w 0 3 1

theorem OwnInts.ints {w : World} {o : Option Addr} {c : Nat} {xs : List Int} (h : OwnInts w o c xs) : IntsP (fun b => o = some ⟨b, 0, none⟩) w o xs := by
  rcases h.2 with ⟨_, h0⟩ | ⟨g, cap, cur, hv, _, hg, hn, hcm, hcs, ht⟩
  · exact Or.inl (List.eq_nil_of_length_eq_zero h0)
  · simp only [Value.slice.injEq] at hv
    obtain ⟨rfl, _, rfl⟩ := hv
    refine Or.inr ⟨g, 0, rfl, rfl, fun i hi => ?_⟩
    have := World.ownsRow.cellAt h i (by omega)
    rw [Nat.zero_add, this]
    simp [List.getD, hi]

theorem OwnInts.at {w : World} {o : Option Addr} {c : Nat} {xs : List Int} (h : OwnInts w o c xs) : IntsAt w o xs := h.ints.at

/-- Where it lies. -/
theorem OwnInts.form {w : World} {o : Option Addr} {c : Nat} {xs : List Int} (h : OwnInts w o c xs) : (o = none ∧ c = 0 ∧ xs = []) ∨ ∃ g, o = some ⟨g, 0, none⟩ ∧ g < w.heap.size ∧ xs.length ≤ c := by
  rcases h.2 with ⟨hv, h0⟩ | ⟨g, cap, cur, hv, _, hg, hn, hcm, hcs, ht⟩
  · simp only [Value.slice.injEq] at hv
    exact Or.inl ⟨hv.1, hv.2.2, List.eq_nil_of_length_eq_zero h0⟩
  · simp only [Value.slice.injEq] at hv
    obtain ⟨rfl, _, rfl⟩ := hv
    exact Or.inr ⟨g, rfl, (Array.getElem?_eq_some_iff.1 hg).1, hn⟩

/-- Carried to a later world that leaves its row alone. -/
theorem OwnInts.keep {w w' : World} {o : Option Addr} {c : Nat} {xs : List Int} (h : OwnInts w o c xs) (hk : ∀ g, o = some ⟨g, 0, none⟩ → g < w.heap.size → w'.heap[g]? = w.heap[g]?) : OwnInts w' o c xs := by
  refine ⟨h.1, ?_⟩
  rcases h.2 with hn | ⟨g, cap, cur, hv, hb, hg, r⟩
  · exact Or.inl hn
  · refine Or.inr ⟨g, cap, cur, hv, hb, ?_, r⟩
    simp only [Value.slice.injEq] at hv
    rw [hk g hv.1 (Array.getElem?_eq_some_iff.1 hg).1]
    exact hg

/-- Cut to nothing: 'xs[:0]'. -/
theorem OwnInts.cut {w : World} {o : Option Addr} {c : Nat} {xs : List Int} (h : OwnInts w o c xs) : OwnInts w o c [] := by
  rcases h.2 with ⟨hv, h0⟩ | ⟨g, cap, cur, hv, hb, hg, hn, hcm, hcs, ht⟩
  · simp only [Value.slice.injEq] at hv
    obtain ⟨rfl, _, rfl⟩ := hv
    exact OwnInts.nil w
  · simp only [Value.slice.injEq] at hv
    obtain ⟨rfl, _, rfl⟩ := hv
    exact ⟨by simp, Or.inr ⟨g, c, cur, by simp, hb, hg, Nat.zero_le _, hcm, hcs, by simp⟩⟩

/-- 'xs = append(xs, y)', the number laid in a block of its own first. -/
theorem wp_append1 (w0 : World) {ops : Array Oper} {rest : List Oper} {op : Oper} {a : Act} {Q : Exit → Act → World → Prop} (hgd : op.guard = none) (s x : Operand)
    (ho : op.op = .call { callee := .builtin .append, args := #[s, x], argTypes := #[40, 40] })
    (o : Option Addr) (c : Nat) (xs : List Int) (y : Int) (hs : a.eval s = .slice o xs.length c) {N : Nat} (hx : a.eval x = .slice (some ⟨N, 0, none⟩) 1 1) (hN : N = w0.heap.size)
    (hown : OwnInts w0 o c xs) (hlen : xs.length ≤ 10000000)
    (h : ∀ g c' w', OwnInts w' (some ⟨g, 0, none⟩) c' (xs ++ [y]) → w0.grownBy w' (o.map Addr.block) → (o = some ⟨g, 0, none⟩ ∨ w0.heap.size < g) → wpList Try.prog ops Q rest (a.put op.dst (.slice (some ⟨g, 0, none⟩) (xs.length + 1) c')) w') :
    wpList Try.prog ops Q (op :: rest) a (w0.alloc (.cells #[.int .i64 y] 3)) := by
  subst hN
  obtain ⟨i0, hi, hz0, hz1, hz2⟩ := info_parts Try.info3
  have hml : xs.length + 1 ≤ maxLen := by unfold maxLen; omega
  have hnews : ∀ j u, ([Value.int .i64 y])[j]? = some u → (w0.alloc (.cells #[.int .i64 y] 3)).cell? ((⟨w0.heap.size, 0, none⟩ : Addr).add j) = some u := by
    intro j u hj
    match j, hj with
    | 0, hj => simp at hj; subst hj; simp [Addr.add]
  have h1c : ∀ u ∈ [Value.int .i64 y], u.oneCell' = true := by intro u hu; simp at hu; subst hu; rfl
  have hgr : ∀ w' row, (w0.alloc (.cells #[.int .i64 y] 3)).grownBy w' row → w0.grownBy w' row := fun w' row hg =>
    ⟨hg.os, hg.tape, hg.output, Nat.le_trans (by simp) hg.size, fun k hk hne => (hg.block k (by simp; omega) hne).trans (Below.heap_alloc _ _ _ hk)⟩
  have hown1 : OwnInts (w0.alloc (.cells #[.int .i64 y] 3)) o c xs := World.ownsRow.alloc hown _
  have grows : ∀ v' w', w'.ownsRow (w0.alloc (.cells #[.int .i64 y] 3)).heap.size 3 1 v' (xs.length + 1) (xs.map (Value.int .i64) ++ [.int .i64 y]) → (w0.alloc (.cells #[.int .i64 y] 3)).grownBy w' none → wpList Try.prog ops Q rest (a.put op.dst v') w' := by
    intro v' w' how hg
    rcases how.2 with ⟨_, h0⟩ | ⟨g, cap, cur, rfl, hb, hgg, hn, hcm, hcs, ht⟩
    · omega
    · refine h g cap w' ⟨by simp, Or.inr ⟨g, cap, cur, by simp, Nat.zero_le _, hgg, by simpa using hn, hcm, hcs, by simpa using ht⟩⟩ ?_ (Or.inr (by simp at hb; omega))
      have := hgr w' none hg
      exact ⟨this.os, this.tape, this.output, this.size, fun k hk _ => this.block k hk (by simp)⟩
  rcases hown.form with ⟨rfl, rfl, rfl⟩ | ⟨g, rfl, hgl, hlc⟩
  · exact wpList_append_grows _ hgd s x 40 ho 3 i0 (.int .i64 0) 1 8 Try.underlying40 hi hz0 hz1 hz2 rfl (by decide) none 0 0 [] hs (fun _ => ⟨rfl, rfl⟩) (by simp) (fun b hb => by cases hb) ⟨w0.heap.size, 0, none⟩ 1 1 [.int .i64 y] hx rfl hnews h1c (by omega) (by simpa using hml) (by omega) (by simpa using grows)
  · by_cases hroom : xs.length + 1 ≤ c
    · refine wpList_append_fits _ hgd s x 40 ho 0 3 i0 1 Try.underlying40 hi hz1 g xs.length c (xs.map (Value.int .i64)) hs hown1 ⟨w0.heap.size, 0, none⟩ 1 1 [.int .i64 y] hx rfl hnews h1c hroom ?_
      intro w' how hg
      refine h g c w' ?_ ?_ (Or.inl rfl)
      · have e1 : (xs ++ [y]).map (Value.int .i64) = xs.map (Value.int .i64) ++ [.int .i64 y] := by simp
        have e2 : (xs ++ [y]).length = xs.length + 1 := by simp
        unfold OwnInts
        rw [e1, e2]
        exact how
      · exact hgr w' _ hg
    · exact wpList_append_grows _ hgd s x 40 ho 3 i0 (.int .i64 0) 1 8 Try.underlying40 hi hz0 hz1 hz2 rfl (by decide) (some ⟨g, 0, none⟩) xs.length c (xs.map (Value.int .i64)) hs (fun h => by cases h) (by simp)
        (fun b hb => by cases hb; exact World.ownsRow.cells hown1 rfl) ⟨w0.heap.size, 0, none⟩ 1 1 [.int .i64 y] hx rfl hnews h1c (by omega) hml (by omega) grows
end Go.Proofs.Qxb6617182a
