/-
  SEAT b6617182a: the plain words about memory that the walks share. Nothing of the program is imported here.
-/
import Derived.WalkKit
import Derived.Deep.OwnRows
namespace Go.Proofs.Qxb6617182a
open Go.RowKit Go.Deep

theorem hid {p : Prop} (h : p) : Hid p := h

/-- The sum of the first k values. -/
def sumTo (L : Nat → Nat) : Nat → Nat
  | 0 => 0
  | k + 1 => sumTo L k + L k

theorem sumTo_mono (L : Nat → Nat) {a b : Nat} (h : a ≤ b) : sumTo L a ≤ sumTo L b := by
  induction h with
  | refl => exact Nat.le_refl _
  | step h ih => exact Nat.le_trans ih (Nat.le_add_right _ _)

theorem sumTo_ge (L : Nat → Nat) {r n : Nat} (h : r < n) : L r ≤ sumTo L n := by
  have := sumTo_mono L (show r + 1 ≤ n from h)
  simp only [sumTo] at this
  omega

/-- A slice whose elements are slices, as it lies in memory: 'n' one-cell elements at 'o'. -/
def SlicesAt (w : World) (o : Option Addr) (n : Nat) (A : Nat → Option Addr) (L C : Nat → Nat) : Prop :=
  n = 0 ∨ ∃ b off, o = some ⟨b, off, none⟩ ∧ ∀ r, r < n → w.cell? ⟨b, off + r, none⟩ = some (.slice (A r) (L r) (C r))

/-- A slice of ints as it lies in memory: the elements 'zs' at 'o'. -/
def IntsAt (w : World) (o : Option Addr) (zs : List Int) : Prop :=
  zs = [] ∨ ∃ b off, o = some ⟨b, off, none⟩ ∧ ∀ i, i < zs.length → w.cell? ⟨b, off + i, none⟩ = some (.int .i64 (zs.getD i 0))

/-- A [][]int as it lies in memory: row r is 'Z r'. -/
def MatAt (w : World) (o : Option Addr) (n : Nat) (A : Nat → Option Addr) (C : Nat → Nat) (Z : Nat → List Int) : Prop :=
  SlicesAt w o n A (fun r => (Z r).length) C ∧ ∀ r, r < n → IntsAt w (A r) (Z r)

/-- 'It returns a bool; where that is true, p holds.' Behind a name, so that the walk leaves it as it is. -/
def RetB (e : Ending) (p : Prop) : Prop := ∃ b : Bool, e = .returned (.bool b) ∧ (b = true → p)

theorem RetB.no (p : Prop) : RetB (.returned (.bool false)) p := ⟨false, rfl, fun h => by cases h⟩
theorem RetB.mk {p : Prop} (b : Bool) (h : b = true → p) : RetB (.returned (.bool b)) p := ⟨b, rfl, h⟩

/-! ### The same words, with a word on the blocks in which things lie -/

/-- A slice of ints as it lies in memory, in a block of which p holds. -/
def IntsP (p : Nat → Prop) (w : World) (o : Option Addr) (zs : List Int) : Prop :=
  zs = [] ∨ ∃ b off, o = some ⟨b, off, none⟩ ∧ p b ∧ ∀ i, i < zs.length → w.cell? ⟨b, off + i, none⟩ = some (.int .i64 (zs.getD i 0))

theorem IntsP.at {p : Nat → Prop} {w : World} {o : Option Addr} {zs : List Int} (h : IntsP p w o zs) : IntsAt w o zs := by
  rcases h with h | ⟨b, off, ho, _, hc⟩
  · exact Or.inl h
  · exact Or.inr ⟨b, off, ho, hc⟩

theorem IntsAt.p {w : World} {o : Option Addr} {zs : List Int} (h : IntsAt w o zs) : IntsP (fun b => b < w.heap.size) w o zs := by
  rcases h with h | ⟨b, off, ho, hc⟩
  · exact Or.inl h
  · by_cases hz : zs = []
    · exact Or.inl hz
    · have hl : 0 < zs.length := List.length_pos_iff.2 hz
      exact Or.inr ⟨b, off, ho, World.block_lt_of_cell? w ⟨b, off + 0, none⟩ (hc 0 hl), hc⟩

/-- Carried to a later world. -/
theorem IntsP.keep {p q : Nat → Prop} {w w' : World} {o : Option Addr} {zs : List Int} (h : IntsP p w o zs)
    (hk : ∀ b, p b → b < w.heap.size → w'.heap[b]? = w.heap[b]?) (hq : ∀ b, p b → b < w.heap.size → q b) : IntsP q w' o zs := by
  rcases h with h | ⟨b, off, ho, hp, hc⟩
  · exact Or.inl h
  · by_cases hz : zs = []
    · exact Or.inl hz
    · have hl : 0 < zs.length := List.length_pos_iff.2 hz
      have hb : b < w.heap.size := World.block_lt_of_cell? w ⟨b, off + 0, none⟩ (hc 0 hl)
      exact Or.inr ⟨b, off, ho, hq b hp hb, fun i hi => (World.cell?_of_block (w := w) (hk b hp hb)).trans (hc i hi)⟩

/-- A [][]int as it lies in memory, all in blocks of which p holds. -/
def MatP (p : Nat → Prop) (w : World) (o : Option Addr) (n : Nat) (A : Nat → Option Addr) (C : Nat → Nat) (Z : Nat → List Int) : Prop :=
  (n = 0 ∨ ∃ b off, o = some ⟨b, off, none⟩ ∧ p b ∧ ∀ r, r < n → w.cell? ⟨b, off + r, none⟩ = some (.slice (A r) (Z r).length (C r))) ∧
  ∀ r, r < n → IntsP p w (A r) (Z r)

theorem MatP.at {p : Nat → Prop} {w : World} {o : Option Addr} {n : Nat} {A : Nat → Option Addr} {C : Nat → Nat} {Z : Nat → List Int} (h : MatP p w o n A C Z) : MatAt w o n A C Z := by
  refine ⟨?_, fun r hr => (h.2 r hr).at⟩
  rcases h.1 with h | ⟨b, off, ho, _, hc⟩
  · exact Or.inl h
  · exact Or.inr ⟨b, off, ho, hc⟩

theorem MatAt.p {w : World} {o : Option Addr} {n : Nat} {A : Nat → Option Addr} {C : Nat → Nat} {Z : Nat → List Int} (h : MatAt w o n A C Z) : MatP (fun b => b < w.heap.size) w o n A C Z := by
  refine ⟨?_, fun r hr => (h.2 r hr).p⟩
  rcases h.1 with h | ⟨b, off, ho, hc⟩
  · exact Or.inl h
  · by_cases hz : n = 0
    · exact Or.inl hz
    · exact Or.inr ⟨b, off, ho, World.block_lt_of_cell? w ⟨b, off + 0, none⟩ (hc 0 (by omega)), hc⟩

theorem MatP.keep {p q : Nat → Prop} {w w' : World} {o : Option Addr} {n : Nat} {A : Nat → Option Addr} {C : Nat → Nat} {Z : Nat → List Int} (h : MatP p w o n A C Z)
    (hk : ∀ b, p b → b < w.heap.size → w'.heap[b]? = w.heap[b]?) (hq : ∀ b, p b → b < w.heap.size → q b) : MatP q w' o n A C Z := by
  refine ⟨?_, fun r hr => (h.2 r hr).keep hk hq⟩
  rcases h.1 with h | ⟨b, off, ho, hp, hc⟩
  · exact Or.inl h
  · by_cases hz : n = 0
    · exact Or.inl hz
    · have hb : b < w.heap.size := World.block_lt_of_cell? w ⟨b, off + 0, none⟩ (hc 0 (by omega))
      exact Or.inr ⟨b, off, ho, hq b hp hb, fun r hr => (World.cell?_of_block (w := w) (hk b hp hb)).trans (hc r hr)⟩

theorem IntsAt.below {w w' : World} {o : Option Addr} {zs : List Int} (h : IntsAt w o zs) (hb : Below w.heap.size w w') : IntsAt w' o zs :=
  (h.p.keep (q := fun _ => True) (fun b _ hl => hb.block b hl) (fun _ _ _ => trivial)).at

theorem MatAt.below {w w' : World} {o : Option Addr} {n : Nat} {A : Nat → Option Addr} {C : Nat → Nat} {Z : Nat → List Int} (h : MatAt w o n A C Z) (hb : Below w.heap.size w w') : MatAt w' o n A C Z :=
  (h.p.keep (q := fun _ => True) (fun b _ hl => hb.block b hl) (fun _ _ _ => trivial)).at

/-- A row of the call's own is a slice of ints. -/
theorem IntsP.row {w : World} {b : Nat} {t : TypeId} {zs : List Int} {p : Nat → Prop} (h : w.rowIs b t zs.length (fun i => .int .i64 (zs.getD i 0))) (hp : p b) : IntsP p w (some ⟨b, 0, none⟩) zs :=
  Or.inr ⟨b, 0, rfl, hp, fun i hi => by rw [Nat.zero_add]; exact h.cell hi⟩

/-! ### Slices of slices of three-cell structs: the numbers of a row lie one behind the other, three a struct -/

def PMatP (p : Nat → Prop) (w : World) (o : Option Addr) (n : Nat) (A : Nat → Option Addr) (L C : Nat → Nat) (Z : Nat → List Int) : Prop :=
  (n = 0 ∨ ∃ b off, o = some ⟨b, off, none⟩ ∧ p b ∧ ∀ r, r < n → w.cell? ⟨b, off + r, none⟩ = some (.slice (A r) (L r) (C r))) ∧
  ∀ r, r < n → (Z r).length = 3 * L r ∧ IntsP p w (A r) (Z r)

theorem PMatP.slices {p : Nat → Prop} {w : World} {o : Option Addr} {n : Nat} {A : Nat → Option Addr} {L C : Nat → Nat} {Z : Nat → List Int} (h : PMatP p w o n A L C Z) : SlicesAt w o n A L C := by
  rcases h.1 with h | ⟨b, off, ho, _, hc⟩
  · exact Or.inl h
  · exact Or.inr ⟨b, off, ho, hc⟩

theorem PMatP.keep {p q : Nat → Prop} {w w' : World} {o : Option Addr} {n : Nat} {A : Nat → Option Addr} {L C : Nat → Nat} {Z : Nat → List Int} (h : PMatP p w o n A L C Z)
    (hk : ∀ b, p b → b < w.heap.size → w'.heap[b]? = w.heap[b]?) (hq : ∀ b, p b → b < w.heap.size → q b) : PMatP q w' o n A L C Z := by
  refine ⟨?_, fun r hr => ⟨(h.2 r hr).1, (h.2 r hr).2.keep hk hq⟩⟩
  rcases h.1 with h | ⟨b, off, ho, hp, hc⟩
  · exact Or.inl h
  · by_cases hz : n = 0
    · exact Or.inl hz
    · have hb : b < w.heap.size := World.block_lt_of_cell? w ⟨b, off + 0, none⟩ (hc 0 (by omega))
      exact Or.inr ⟨b, off, ho, hq b hp hb, fun r hr => (World.cell?_of_block (w := w) (hk b hp hb)).trans (hc r hr)⟩

theorem PMatP.below {p : Nat → Prop} {w w' : World} {o : Option Addr} {n : Nat} {A : Nat → Option Addr} {L C : Nat → Nat} {Z : Nat → List Int} (h : PMatP p w o n A L C Z) (hb : Below w.heap.size w w') : PMatP p w' o n A L C Z :=
  h.keep (fun b _ hl => hb.block b hl) (fun _ hp _ => hp)

/-- What make lays for a slice of three-int structs. -/
theorem World.rowIs_made3 (w : World) (n : Nat) (t : TypeId) : (w.alloc (.cells (madeCells #[.int .i64 0, .int .i64 0, .int .i64 0] (n * 3)) t)).rowIs w.heap.size t (n * 3) (fun _ => .int .i64 0) := by
  refine ⟨_, blk_alloc_new _ _, size_madeCells _ _, fun i hi => ?_⟩
  have h3 : i % 3 = 0 ∨ i % 3 = 1 ∨ i % 3 = 2 := by omega
  rcases h3 with h | h | h <;> simp [madeCells, hi, h]

end Go.Proofs.Qxb6617182a
