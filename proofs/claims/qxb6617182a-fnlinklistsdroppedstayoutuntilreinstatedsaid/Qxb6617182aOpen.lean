/-
  SEAT b6617182a: the arguments of the laws, opened.
-/
import Derived.Test.Qxb6617182aRows
import Derived.Test.Qxb6617182aBase
import Derived.ProofKit
import Derived.OpenShut
import Derived.ChangeOld
import Derived.Deep.Matrix
import Derived.Deep.Strs
namespace Go.Proofs.Qxb6617182a
open Go.ChangeShapes Go.WideShapes Go.ChangeAt Go.RowKit Go.Deep

theorem Try.cells3 : Try.prog.cellsOf 3 = 1 := by kernel_rfl
theorem Try.cells40 : Try.prog.cellsOf 40 = 1 := by kernel_rfl
theorem Try.cells53 : Try.prog.cellsOf 53 = 1 := by kernel_rfl
theorem Try.cells55 : Try.prog.cellsOf 55 = 3 := by kernel_rfl

/-- An address at which something lies, and the elements behind it. -/
theorem plain_row {w : World} {a : Addr} {n : Nat} {V : Nat → Value} (h : ∀ i, i < n → w.cell? (a.add i) = some (V i)) : n = 0 ∨ ∃ b off, a = ⟨b, off, none⟩ ∧ ∀ i, i < n → w.cell? ⟨b, off + i, none⟩ = some (V i) := by
  by_cases hn : n = 0
  · exact Or.inl hn
  · right
    obtain ⟨b, off, spot⟩ := a
    have hs : spot = none := by simpa [Addr.add] using World.cell?_spot (h 0 (by omega))
    subst hs
    exact ⟨b, off, rfl, fun i hi => by rw [← add_plain]; exact h i hi⟩

theorem open_row {w : World} {a0 : Option Addr} {L C : Nat} {zs : List Int} (hL : L ≤ C) (hz : zs.length = C) (hn : a0 = none → C = 0) (hc : ∀ a, a0 = some a → ∀ c, c < C → w.cell? (a.add c) = some (.int .i64 (zs.getD c 0))) : IntsAt w a0 (zs.take L) := by
  cases a0 with
  | none => have := hn rfl; exact Or.inl (List.eq_nil_of_length_eq_zero (by rw [List.length_take]; omega))
  | some a =>
    rcases plain_row (V := fun c => .int .i64 (zs.getD c 0)) (n := L) (fun i hi => hc a rfl i (by omega)) with h0 | ⟨b, off, rfl, h⟩
    · exact Or.inl (List.eq_nil_of_length_eq_zero (by rw [List.length_take]; omega))
    · refine Or.inr ⟨b, off, rfl, fun i hi => ?_⟩
      have hi' : i < L := by rw [List.length_take] at hi; omega
      rw [h i hi']
      simp [List.getD, hi']

theorem open_next {H : Type} {enc : TypeId × Value → H} {W : World} {a0 : Option Addr} {len cap fuel : Nat} {x : DataW H × List MemPlace} (hf : DataW.trod enc Try.prog W 0 (fun _ => true) true fuel 22 [.slice a0 len cap] = some x) :
    ∃ A C Z, MatAt W a0 len A C Z ∧ len ≤ maxLen ∧ ∀ r, r < len → (Z r).length ≤ maxLen := by
  rcases open_int_rows Try.underlying22 Try.underlying40 Try.underlying3 Try.cells40 Try.cells3 hf with ⟨hcs, _⟩ | ⟨a, len', cap', A, L, C, Z, hcs, _, hl, hm, _, hr⟩
  · simp at hcs
    obtain ⟨rfl, rfl, rfl⟩ := hcs
    exact ⟨fun _ => none, fun _ => 0, fun _ => [], ⟨Or.inl rfl, fun r hr => by omega⟩, Nat.zero_le _, fun r hr => by omega⟩
  · simp at hcs
    obtain ⟨rfl, rfl, rfl⟩ := hcs
    have hlen : ∀ r, r < len → ((Z r).take (L r)).length = L r := fun r hlt => by
      obtain ⟨_, h2, h3, h4, _⟩ := hr r (by omega)
      rw [List.length_take]; omega
    refine ⟨A, C, fun r => (Z r).take (L r), ⟨?_, fun r hlt => ?_⟩, by omega, fun r hlt => ?_⟩
    · rcases plain_row (V := fun r => .slice (A r) (L r) (C r)) (n := len) (fun i hi => (hr i (by omega)).1) with h0 | ⟨b, off, rfl, h⟩
      · exact Or.inl h0
      · exact Or.inr ⟨b, off, rfl, fun r hlt => by rw [h r hlt]; show _ = some (Value.slice (A r) ((Z r).take (L r)).length (C r)); rw [hlen r hlt]⟩
    · obtain ⟨_, h2, h3, h4, _, h6, h7⟩ := hr r (by omega)
      exact open_row h2 h4 h6 (fun a' ha => (h7 a' ha).2)
    · obtain ⟨_, h2, h3, _⟩ := hr r (by omega)
      rw [hlen r hlt]; omega

theorem open_ints1 {H : Type} {enc : TypeId × Value → H} {W : World} {a0 : Option Addr} {len cap fuel : Nat} {x : DataW H × List MemPlace} (hf : DataW.trod enc Try.prog W 0 (fun _ => true) true fuel 40 [.slice a0 len cap] = some x) :
    ∃ zs, zs.length = len ∧ IntsAt W a0 zs ∧ len ≤ maxLen := by
  rcases open_ints Try.underlying40 Try.underlying3 Try.cells3 hf with ⟨hcs, _⟩ | ⟨a, len', cap', zs, hcs, _, hl, hm, hz, _, hcell, _⟩
  · simp at hcs
    obtain ⟨rfl, rfl, rfl⟩ := hcs
    exact ⟨[], rfl, Or.inl rfl, Nat.zero_le _⟩
  · simp at hcs
    obtain ⟨rfl, rfl, rfl⟩ := hcs
    simp only [if_true] at hz
    exact ⟨zs.take len, by rw [List.length_take]; omega, open_row hl hz (fun h => by cases h) (fun a' ha c hc => by cases ha; exact hcell c (by omega)), by omega⟩

/-- A struct of three ints as it is read. -/
theorem open_pair {H : Type} {enc : TypeId × Value → H} {W : World} {fuel : Nat} {cs : List Value} {x : DataW H × List MemPlace} (hf : DataW.trod enc Try.prog W 0 (fun _ => true) true fuel 55 cs = some x) :
    ∃ p q r : Int, cs = [.int .i64 p, .int .i64 q, .int .i64 r] := by
  obtain ⟨y0, y1, y2, n, _, hl, h0, h1, h2⟩ := trod_struct3 Try.underlying55 hf
  rw [Try.cells55] at hl
  match cs, hl with
  | [c0, c1, c2], _ =>
    obtain ⟨p, e0, _⟩ := DataW.trod_int Try.underlying3 h0
    obtain ⟨q, e1, _⟩ := DataW.trod_int Try.underlying3 h1
    obtain ⟨r, e2, _⟩ := DataW.trod_int Try.underlying3 h2
    rw [Try.cells3] at e0 e1 e2
    simp at e0 e1 e2
    exact ⟨p, q, r, by rw [e0, e1, e2]⟩

/-- The numbers of n structs, one behind the other. -/
def flat3 (T : Nat → Int × Int × Int) : Nat → List Int
  | 0 => []
  | n + 1 => flat3 T n ++ [(T n).1, (T n).2.1, (T n).2.2]

theorem flat3_length (T : Nat → Int × Int × Int) (n : Nat) : (flat3 T n).length = 3 * n := by
  induction n with
  | zero => rfl
  | succ n ih => simp [flat3, ih]; omega

theorem flat3_get (T : Nat → Int × Int × Int) (n i : Nat) (h : i < n) : (flat3 T n).getD (3 * i) 0 = (T i).1 ∧ (flat3 T n).getD (3 * i + 1) 0 = (T i).2.1 ∧ (flat3 T n).getD (3 * i + 2) 0 = (T i).2.2 := by
  induction n with
  | zero => omega
  | succ n ih =>
    have hl := flat3_length T n
    by_cases e : i = n
    · subst e
      simp [flat3, List.getD, hl]
    · obtain ⟨h1, h2, h3⟩ := ih (by omega)
      simp only [List.getD] at h1 h2 h3
      simp only [flat3, List.getD]
      rw [List.getElem?_append_left (by omega), List.getElem?_append_left (by omega), List.getElem?_append_left (by omega)]
      exact ⟨h1, h2, h3⟩

theorem open_pairRow {H : Type} {enc : TypeId × Value → H} {W : World} {v : Value} {fuel : Nat} {x : DataW H × List MemPlace} (hf : DataW.trod enc Try.prog W 0 (fun _ => true) true fuel 53 [v] = some x) :
    ∃ (y : Option Addr × Nat × Nat × List Int), v = .slice y.1 y.2.1 y.2.2.1 ∧ y.2.1 ≤ maxLen ∧ y.2.2.2.length = 3 * y.2.1 ∧ IntsP (fun _ => True) W y.1 y.2.2.2 := by
  rcases open_slice Try.underlying53 hf with ⟨hcs, _⟩ | ⟨a, len, cap, m, n, D, Pl, hcs, _, hl, hm, hmm, _, hx⟩
  · simp at hcs
    exact ⟨(none, 0, 0, []), hcs, Nat.zero_le _, rfl, Or.inl rfl⟩
  · simp at hcs
    rw [Try.cells55] at hx
    simp only [if_true] at hmm
    obtain ⟨T, hT⟩ := choose_lt (α := Int × Int × Int) (n := len) (p := fun i t => W.cells? 0 (a.add (i * 3)) 3 = some [.int .i64 t.1, .int .i64 t.2.1, .int .i64 t.2.2]) (fun i hi => by
      obtain ⟨cs', h1, h2⟩ := hx i (by omega)
      obtain ⟨p, q, r, rfl⟩ := open_pair h2
      exact ⟨(p, q, r), h1⟩)
    have hlen := flat3_length T len
    refine ⟨(some a, len, cap, flat3 T len), hcs, by show len ≤ maxLen; omega, hlen, ?_⟩
    have key : ∀ i, i < 3 * len → W.cell? (a.add i) = some (.int .i64 ((flat3 T len).getD i 0)) := fun i hi => by
      obtain ⟨_, _, hc⟩ := World.cells?_some (hT (i / 3) (by omega))
      have h3 := hc (i % 3) (by omega)
      rw [add_add, show i / 3 * 3 + i % 3 = i by omega] at h3
      rw [h3]
      obtain ⟨g0, g1, g2⟩ := flat3_get T len (i / 3) (by omega)
      have hi3 : i % 3 = 0 ∨ i % 3 = 1 ∨ i % 3 = 2 := by omega
      rcases hi3 with e | e | e
      · rw [e, show i = 3 * (i / 3) by omega]
        rw [show 3 * (i / 3) / 3 = i / 3 by omega, g0]; rfl
      · rw [e, show i = 3 * (i / 3) + 1 by omega]
        rw [show (3 * (i / 3) + 1) / 3 = i / 3 by omega, g1]; rfl
      · rw [e, show i = 3 * (i / 3) + 2 by omega]
        rw [show (3 * (i / 3) + 2) / 3 = i / 3 by omega, g2]; rfl
    rcases plain_row (V := fun i => .int .i64 ((flat3 T len).getD i 0)) (n := 3 * len) key with h0 | ⟨b, off, rfl, h⟩
    · exact Or.inl (List.eq_nil_of_length_eq_zero (by rw [hlen]; exact h0))
    · exact Or.inr ⟨b, off, rfl, trivial, fun i hi => h i (by rw [hlen] at hi; exact hi)⟩

theorem open_pairs {H : Type} {enc : TypeId × Value → H} {W : World} {a0 : Option Addr} {len cap fuel : Nat} {x : DataW H × List MemPlace} (hf : DataW.trod enc Try.prog W 0 (fun _ => true) true fuel 23 [.slice a0 len cap] = some x) :
    ∃ A L C Z, PMatP (fun _ => True) W a0 len A L C Z ∧ len ≤ maxLen ∧ ∀ r, r < len → L r ≤ maxLen := by
  rcases open_slice1 Try.underlying23 Try.cells53 hf with ⟨hcs, _⟩ | ⟨a, len', cap', m, n, V, D, Pl, hcs, _, hl, hm, hmm, _, hx⟩
  · simp at hcs
    obtain ⟨rfl, rfl, rfl⟩ := hcs
    exact ⟨fun _ => none, fun _ => 0, fun _ => 0, fun _ => [], ⟨Or.inl rfl, fun r hr => by omega⟩, Nat.zero_le _, fun r hr => by omega⟩
  · simp at hcs
    obtain ⟨rfl, rfl, rfl⟩ := hcs
    simp only [if_true] at hmm
    obtain ⟨y, hy⟩ := choose_lt (n := len) (p := fun r (y : Option Addr × Nat × Nat × List Int) => V r = .slice y.1 y.2.1 y.2.2.1 ∧ y.2.1 ≤ maxLen ∧ y.2.2.2.length = 3 * y.2.1 ∧ IntsP (fun _ => True) W y.1 y.2.2.2) (fun r hr => open_pairRow (hx r (by omega)).2)
    refine ⟨fun r => (y r).1, fun r => (y r).2.1, fun r => (y r).2.2.1, fun r => (y r).2.2.2, ⟨?_, fun r hr => ⟨(hy r hr).2.2.1, (hy r hr).2.2.2⟩⟩, by omega, fun r hr => (hy r hr).2.1⟩
    rcases plain_row (V := V) (n := len) (fun i hi => (hx i (by omega)).1) with h0 | ⟨b, off, rfl, h⟩
    · exact Or.inl h0
    · exact Or.inr ⟨b, off, rfl, trivial, fun r hr => by rw [h r hr, (hy r hr).1]⟩

end Go.Proofs.Qxb6617182a
