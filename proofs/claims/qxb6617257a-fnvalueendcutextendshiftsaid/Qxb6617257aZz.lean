/-
  SEAT b6617257a: the laws' own bounds on their arguments (7, 11, 14, 15), and the arguments opened.
-/
import Derived.Test.Qxb6617257aProg
import Derived.Test.Qxb6617257aBase
namespace Go.Proofs.Qxb6617257a
open Go.RowKit Go.Deep

/-- It answers so, and nothing is turned. -/
def TellsBool (b : Bool) (w : World) (e : Ending) (w' : World) : Prop := e = .returned (.bool b) ∧ w' = w

/-- It returns true, and writes nothing that was there. -/
def TrueBelow (w : World) (e : Ending) (w' : World) : Prop := e = .returned (.bool true) ∧ Below w.heap.size w w'

theorem add_plain (b off i : Nat) : (⟨b, off, none⟩ : Addr).add i = ⟨b, off + i, none⟩ := by simp [Addr.add]

theorem open_bytes {w : World} {a : Option Addr} {len cap : Nat} {zs : List Int}
    (h : (a = none ∧ len = 0 ∧ cap = 0 ∧ zs = []) ∨ ∃ x, a = some x ∧ len ≤ cap ∧ cap ≤ maxLen ∧ zs.length = cap ∧ (∀ i, i < zs.length → w.cell? (x.add i) = some (.int .u8 (zs.getD i 0))) ∧ ∀ n ∈ zs, (Lit.int .u8 n).wf = true) :
    ∃ ys, ys.length = len ∧ BytesAt w a ys ∧ ys.length ≤ 9223372036854775807 := by
  rcases h with ⟨rfl, rfl, rfl, rfl⟩ | ⟨x, rfl, h1, h2, h3, h4, _⟩
  · exact ⟨[], rfl, Or.inl rfl, by simp⟩
  · have hl : (zs.take len).length = len := by rw [List.length_take]; omega
    refine ⟨zs.take len, hl, ?_, by unfold maxLen at h2; omega⟩
    refine BytesAt.take ?_ len
    by_cases h0 : zs.length = 0
    · exact Or.inl (List.eq_nil_of_length_eq_zero h0)
    · right
      obtain ⟨b, off, spot⟩ := x
      have hs : spot = none := by simpa [Addr.add] using World.cell?_spot (h4 0 (by omega))
      subst hs
      exact ⟨b, off, rfl, fun i hi => by rw [← add_plain]; exact h4 i hi⟩

theorem BytesAt.nil {w : World} {zs : List Int} (h : BytesAt w none zs) : zs = [] := by
  rcases h with h | ⟨b, off, ho, _⟩
  · exact h
  · cases ho

set_option maxHeartbeats 1000000 in
theorem zz11_any (o : Option Addr) (n c : Nat) (v : Value) (w : World) (_hm : n ≤ 9223372036854775807) :
    Calls Try.prog 11 #[.slice o n c, v] w (TellsBool (decide (n ≤ 1048576)) w) := by
  by_cases h : n ≤ 1048576
  · have hv : decide (n ≤ 1048576) = true := decide_eq_true h
    rw [hv]
    clear hv
    go_enter Try.func11, Try.ntmps11
    go_wp2
    go_ret
    exact ⟨rfl, rfl⟩
  · have hv : decide (n ≤ 1048576) = false := decide_eq_false h
    rw [hv]
    clear hv
    go_enter Try.func11, Try.ntmps11
    go_wp2
    go_ret
    exact ⟨rfl, rfl⟩

/-- Within the bound: yes; beyond: yes or no. -/
def Zz7 (n m : Nat) (w : World) (e : Ending) (w' : World) : Prop := ∃ b, e = .returned (.bool b) ∧ w' = w ∧ (b = true → n ≤ 1048576 ∧ m ≤ 1048576)

set_option maxHeartbeats 1000000 in
theorem zz7_any (o p : Option Addr) (n c m d : Nat) (v : Value) (w : World) (_h1 : n ≤ 9223372036854775807) (_h2 : m ≤ 9223372036854775807) :
    Calls Try.prog 7 #[.slice o n c, .slice p m d, v] w (Zz7 n m w) := by
  by_cases h : n ≤ 1048576
  · by_cases h' : m ≤ 1048576
    · by_cases h'' : n + m ≤ 1048576
      · go_enter Try.func7, Try.ntmps7
        go_wp2
        go_ret
        exact ⟨true, rfl, rfl, fun _ => ⟨h, h'⟩⟩
      · go_enter Try.func7, Try.ntmps7
        go_wp2
        go_ret
        exact ⟨false, rfl, rfl, (fun h => by cases h)⟩
    · go_enter Try.func7, Try.ntmps7
      go_wp2
      go_ret
      exact ⟨false, rfl, rfl, (fun h => by cases h)⟩
  · go_enter Try.func7, Try.ntmps7
    go_wp2
    go_ret
    exact ⟨false, rfl, rfl, (fun h => by cases h)⟩

/-- Within the bound: yes; beyond: yes or no. -/
def Zz14 (n m : Nat) (w : World) (e : Ending) (w' : World) : Prop := ∃ b, e = .returned (.bool b) ∧ w' = w ∧ (b = true → n ≤ 1048576 ∧ m ≤ 1048576)

set_option maxHeartbeats 1000000 in
theorem zz14_any (o p : Option Addr) (n c m d : Nat) (v : Value) (w : World) (_h1 : n ≤ 9223372036854775807) (_h2 : m ≤ 9223372036854775807) :
    Calls Try.prog 14 #[.slice o n c, .slice p m d, v] w (Zz14 n m w) := by
  by_cases h : n ≤ 1048576
  · by_cases h' : m ≤ 1048576
    · by_cases h'' : n + m ≤ 1048576
      · go_enter Try.func14, Try.ntmps14
        go_wp2
        go_ret
        exact ⟨true, rfl, rfl, fun _ => ⟨h, h'⟩⟩
      · go_enter Try.func14, Try.ntmps14
        go_wp2
        go_ret
        exact ⟨false, rfl, rfl, (fun h => by cases h)⟩
    · go_enter Try.func14, Try.ntmps14
      go_wp2
      go_ret
      exact ⟨false, rfl, rfl, (fun h => by cases h)⟩
  · go_enter Try.func14, Try.ntmps14
    go_wp2
    go_ret
    exact ⟨false, rfl, rfl, (fun h => by cases h)⟩

/-- Within the bound: yes; beyond: yes or no. -/
def Zz15 (n m : Nat) (w : World) (e : Ending) (w' : World) : Prop := ∃ b, e = .returned (.bool b) ∧ w' = w ∧ (b = true → n ≤ 1048576 ∧ m ≤ 1048576)

set_option maxHeartbeats 1000000 in
theorem zz15_any (o p : Option Addr) (n c m d : Nat) (v : Value) (w : World) (_h1 : n ≤ 9223372036854775807) (_h2 : m ≤ 9223372036854775807) :
    Calls Try.prog 15 #[.slice o n c, .slice p m d, v] w (Zz15 n m w) := by
  by_cases h : n ≤ 1048576
  · by_cases h' : m ≤ 1048576
    · by_cases h'' : n + m ≤ 1048576
      · go_enter Try.func15, Try.ntmps15
        go_wp2
        go_ret
        exact ⟨true, rfl, rfl, fun _ => ⟨h, h'⟩⟩
      · go_enter Try.func15, Try.ntmps15
        go_wp2
        go_ret
        exact ⟨false, rfl, rfl, (fun h => by cases h)⟩
    · go_enter Try.func15, Try.ntmps15
      go_wp2
      go_ret
      exact ⟨false, rfl, rfl, (fun h => by cases h)⟩
  · go_enter Try.func15, Try.ntmps15
    go_wp2
    go_ret
    exact ⟨false, rfl, rfl, (fun h => by cases h)⟩
end Go.Proofs.Qxb6617257a
