import Derived.Test.Qxb6617182aWalkB
import Derived.Test.Qxb6617182aCount
import Derived.Deep.DeepCutAuto
import Derived.Deep.RegionLaw
namespace Go.Proofs.Qxb6617182a
open Go.RowKit Go.Deep

/-- From w to w' only blocks of which S speaks have turned (and new ones are there). -/
structure Only (S : Nat → Prop) (w w' : World) : Prop where
  os : w'.os = w.os
  tape : w'.tape = w.tape
  output : w'.output = w.output
  size : w.heap.size ≤ w'.heap.size
  block : ∀ k, k < w.heap.size → ¬ S k → w'.heap[k]? = w.heap[k]?

theorem Only.refl (S : Nat → Prop) (w : World) : Only S w w := ⟨rfl, rfl, rfl, Nat.le_refl _, fun _ _ _ => rfl⟩
theorem Only.trans {S : Nat → Prop} {a b c : World} (h : Only S a b) (k : Only S b c) : Only S a c :=
  ⟨k.os.trans h.os, k.tape.trans h.tape, k.output.trans h.output, Nat.le_trans h.size k.size, fun i hi hn => (k.block i (Nat.lt_of_lt_of_le hi h.size) hn).trans (h.block i hi hn)⟩
theorem Only.set {S : Nat → Prop} {a w : World} (h : Only S a w) {p : Addr} (hp : S p.block) (u : Value) : Only S a (w.setCell p u) :=
  h.trans ⟨rfl, rfl, rfl, by simp, fun k _ hn => Below.heap_setCell _ _ _ _ (fun e => hn (e ▸ hp))⟩
theorem Only.alloc {S : Nat → Prop} {a w : World} (h : Only S a w) (o : Obj) : Only S a (w.alloc o) :=
  h.trans ⟨rfl, rfl, rfl, by simp, fun k hk _ => Below.heap_alloc _ _ _ hk⟩
theorem Only.drew {S : Nat → Prop} {a w : World} (h : Only S a w) : Only S a w.drew := ⟨h.os, h.tape, h.output, h.size, h.block⟩
theorem Only.below {S : Nat → Prop} {B : Nat} {w w1 wr : World} (h : Only S w1 wr) (hb : Below B w w1) (hS : ∀ k, S k → B ≤ k) (hB : B ≤ w1.heap.size) : Below B w wr :=
  ⟨h.os.trans hb.os, h.tape.trans hb.tape, h.output.trans hb.output, Nat.le_trans hb.size h.size, fun k hk => (h.block k (by omega) (fun hs => by have := hS k hs; omega)).trans (hb.block k hk)⟩

def newCells (vA vP : Value) (n ga gl : Nat) (q0 q1 : Value) : Array Value :=
  #[vA, .slice (some ⟨ga, 0, none⟩) n n, vP, .slice (some ⟨gl, 0, none⟩) n n, .slice none 0 0, .slice none 0 0, q0, q1, .slice none 0 0]

/-- What the first statement of newLinkLists leaves. -/
structure New0 (w wc : World) (n : Nat) (vA vP : Value) (ga gl : Nat) : Prop where
  below : Below w.heap.size w wc
  size : wc.heap.size = w.heap.size + 3
  gd : ga ≠ gl ∧ w.heap.size ≤ ga ∧ w.heap.size ≤ gl ∧ ga < w.heap.size + 2 ∧ gl < w.heap.size + 2
  blk : wc.heap[w.heap.size + 2]? = some (.cells (newCells vA vP n ga gl (.slice none 0 0) (.slice none 0 0)) 60 (0, 0))
  ra : wc.rowIs ga 40 n (fun _ => .slice none 0 0)
  rl : wc.rowIs gl 4 n (fun _ => .bool false)

theorem new0_ab (w : World) (n : Nat) (vA vP : Value) : New0 w (((w.alloc (.cells (madeCells #[.slice none 0 0] n) 40)).alloc (.cells (madeCells #[.bool false] n) 4)).alloc (.cells (newCells vA vP n w.heap.size (w.heap.size + 1) (.slice none 0 0) (.slice none 0 0)) 60)) n vA vP w.heap.size (w.heap.size + 1) := by
  have s1 : (w.alloc (.cells (madeCells #[.slice none 0 0] n) 40)).heap.size = w.heap.size + 1 := nblk_alloc _ _
  have s2 : ((w.alloc (.cells (madeCells #[.slice none 0 0] n) 40)).alloc (.cells (madeCells #[.bool false] n) 4)).heap.size = w.heap.size + 2 := by rw [nblk_alloc, s1]
  refine ⟨(((Below.refl _ _).alloc (Nat.le_refl _) _).alloc (by omega) _).alloc (by omega) _, by rw [nblk_alloc, s2], by omega, ?_, ?_, ?_⟩
  · rw [← s2]; exact blk_alloc_new _ _
  · exact ((World.rowIs_made w (.slice none 0 0) n 40).alloc _).alloc _
  · have := World.rowIs_made (w.alloc (.cells (madeCells #[.slice none 0 0] n) 40)) (.bool false) n 4
    rw [s1] at this
    exact this.alloc _

theorem new0_ba (w : World) (n : Nat) (vA vP : Value) : New0 w (((w.alloc (.cells (madeCells #[.bool false] n) 4)).alloc (.cells (madeCells #[.slice none 0 0] n) 40)).alloc (.cells (newCells vA vP n (w.heap.size + 1) w.heap.size (.slice none 0 0) (.slice none 0 0)) 60)) n vA vP (w.heap.size + 1) w.heap.size := by
  have s1 : (w.alloc (.cells (madeCells #[.bool false] n) 4)).heap.size = w.heap.size + 1 := nblk_alloc _ _
  have s2 : ((w.alloc (.cells (madeCells #[.bool false] n) 4)).alloc (.cells (madeCells #[.slice none 0 0] n) 40)).heap.size = w.heap.size + 2 := by rw [nblk_alloc, s1]
  refine ⟨(((Below.refl _ _).alloc (Nat.le_refl _) _).alloc (by omega) _).alloc (by omega) _, by rw [nblk_alloc, s2], by omega, ?_, ?_, ?_⟩
  · rw [← s2]; exact blk_alloc_new _ _
  · have := World.rowIs_made (w.alloc (.cells (madeCells #[.bool false] n) 4)) (.slice none 0 0) n 40
    rw [s1] at this
    exact this.alloc _
  · exact ((World.rowIs_made w (.bool false) n 4).alloc _).alloc _

theorem New0.drew {w wc : World} {n : Nat} {vA vP : Value} {ga gl : Nat} (h : New0 w wc n vA vP ga gl) : New0 w wc.drew n vA vP ga gl :=
  ⟨h.below.drew, h.size, h.gd, h.blk, h.ra.drew, h.rl.drew⟩

/-- 'from[p:p:p+c]' and 'from[:p+c]'. -/
def adrOf (gf p c : Nat) : Option Addr := if c = 0 then some ⟨gf, 0, none⟩ else some ⟨gf, p, none⟩

theorem run_cut3 (gf p c m : Nat) (h : p + c ≤ m) (w : World) : (Instr.slice 40 (.slice (some ⟨gf, 0, none⟩) p m) (some (.int .i64 (p : Int))) (some (.int .i64 (p : Int))) (some (.int .i64 ((p : Int) + (c : Int))))).run Try.prog w = .ok (.slice (adrOf gf p c) 0 c) w := by
  obtain ⟨i0, hi, hz0, hz1, hz2⟩ := info_parts Try.info3
  rw [run_slice_lhm w 40 (some ⟨gf, 0, none⟩) p m (by rw [Try.elem40, Try.underlying40]) .i64 .i64 .i64 p p (p + c) (by omega) (by omega) (by omega) (by omega), Try.elem40]
  have e1 : ((p : Int) + (c : Int)).toNat = p + c := by omega
  have e2 : (p + c = p) = (c = 0) := by rw [eq_iff_iff]; omega
  simp only [sliced, sizeOf, typeInfo, e1, e2, Int.toNat_natCast, adrOf]
  by_cases hc : c = 0
  · subst hc; simp [hi]
  · by_cases hp : p = 0
    · subst hp; simp [hc, hi, Addr.add]
    · simp [hc, hi, Addr.add, hp, hz1]

theorem run_cutTo (gf p c m : Nat) (h : p + c ≤ m) (w : World) : (Instr.slice 40 (.slice (some ⟨gf, 0, none⟩) p m) none (some (.int .i64 ((p : Int) + (c : Int)))) none).run Try.prog w = .ok (.slice (some ⟨gf, 0, none⟩) (p + c) m) w := by
  obtain ⟨i0, hi, hz0, hz1, hz2⟩ := info_parts Try.info3
  rw [run_slice_h w 40 (some ⟨gf, 0, none⟩) p m (by rw [Try.elem40, Try.underlying40]) .i64 (p + c) (by omega) (by omega), Try.elem40]
  have e1 : ((p : Int) + (c : Int)).toNat = p + c := by omega
  simp [sliced, sizeOf, typeInfo, hi, e1, Addr.add]

theorem run_make0 (n : Nat) (hn : n ≤ 1048576) (w : World) :
    (Instr.makeSlice 40 (.int .i64 0) (.int .i64 (n : Int))).run Try.prog w = .ok (.slice (some ⟨w.heap.size, 0, none⟩) 0 n) (w.alloc (.cells (madeCells #[.int .i64 0] n) 3)) := by
  obtain ⟨i, hi, hz, hs, hb⟩ := info_parts Try.info3
  have hr := run_make (P := Try.prog) w 40 3 i _ Try.underlying40 hi hz .i64 .i64 0 n (by omega) (by omega) (by rw [hb]; omega) (by omega)
  simpa [hs, Value.cells] using hr

/-- The lists against the arrows as they are filled: list x holds L x, in its own part of block gf. -/
structure AG (w : World) (ga gf n m : Nat) (cn : Nat → Nat) (L : Nat → List Int) : Prop where
  ra : w.rowIs ga 40 n (fun x => .slice (adrOf gf (sumTo cn x) (cn x)) (L x).length (cn x))
  rf : ∃ f, w.rowIs gf 3 m f ∧ ∀ x, x < n → ∀ i, i < (L x).length → f (sumTo cn x + i) = .int .i64 ((L x).getD i 0)

theorem AG.congr {w : World} {ga gf n m : Nat} {cn : Nat → Nat} {L L' : Nat → List Int} (h : AG w ga gf n m cn L) (e : ∀ x, x < n → L x = L' x) : AG w ga gf n m cn L' := by
  refine ⟨h.ra.congr fun x hx => by rw [e x hx], ?_⟩
  obtain ⟨f, hf, hx⟩ := h.rf
  exact ⟨f, hf, fun x hxn i hi => by rw [← e x hxn] at hi ⊢; exact hx x hxn i hi⟩

theorem AG.step {w : World} {ga gf n m : Nat} {cn : Nat → Nat} {L : Nat → List Int} (h : AG w ga gf n m cn L) (hne : ga ≠ gf) {y : Nat} {v : Int}
    (hroom : (L y).length < cn y) (hle : ∀ x, x < n → (L x).length ≤ cn x) :
    AG ((w.setCell ⟨gf, sumTo cn y + (L y).length, none⟩ (.int .i64 v)).setCell ⟨ga, y, none⟩ (.slice (adrOf gf (sumTo cn y) (cn y)) ((L y).length + 1) (cn y))) ga gf n m cn (fun x => if x = y then L y ++ [v] else L x) := by
  obtain ⟨f, hf, hfx⟩ := h.rf
  have hf1 := (hf.set (sumTo cn y + (L y).length) (.int .i64 v)).setOther (a := ⟨ga, y, none⟩) (v := .slice (adrOf gf (sumTo cn y) (cn y)) ((L y).length + 1) (cn y)) (by simp; omega)
  have ha1 := (h.ra.setOther (a := ⟨gf, sumTo cn y + (L y).length, none⟩) (v := .int .i64 v) (by simpa using hne)).set y (.slice (adrOf gf (sumTo cn y) (cn y)) ((L y).length + 1) (cn y))
  refine ⟨ha1.congr fun x _ => ?_, _, hf1, fun x hxn i hi => ?_⟩
  · by_cases e : x = y
    · subst e; simp
    · simp [e]
  · by_cases e : x = y
    · subst e
      simp only [if_true] at hi ⊢
      by_cases hi2 : i = (L x).length
      · subst hi2; simp
      · have hi3 : i < (L x).length := by simp at hi; omega
        rw [if_neg (by omega), hfx x hxn i hi3]
        simp [List.getD, List.getElem?_append_left hi3]
    · simp only [e, if_false] at hi ⊢
      have hlx := hle x hxn
      rw [if_neg, hfx x hxn i hi]
      intro hc
      rcases Nat.lt_or_gt_of_ne e with hlt | hlt
      · have := sumTo_mono cn (show x + 1 ≤ y from hlt)
        simp only [sumTo] at this
        omega
      · have := sumTo_mono cn (show y + 1 ≤ x from hlt)
        simp only [sumTo] at this
        omega

theorem AG.alloc {w : World} {ga gf n m : Nat} {cn : Nat → Nat} {L : Nat → List Int} (h : AG w ga gf n m cn L) (o : Obj) : AG (w.alloc o) ga gf n m cn L := by
  obtain ⟨f, hf, hx⟩ := h.rf
  exact ⟨h.ra.alloc o, f, hf.alloc o, hx⟩

theorem AG.drew {w : World} {ga gf n m : Nat} {cn : Nat → Nat} {L : Nat → List Int} (h : AG w ga gf n m cn L) : AG w.drew ga gf n m cn L := ⟨h.ra.drew, h.rf⟩

theorem AG.of_blocks {w w' : World} {ga gf n m : Nat} {cn : Nat → Nat} {L : Nat → List Int} (h : AG w ga gf n m cn L) (ea : w'.heap[ga]? = w.heap[ga]?) (ef : w'.heap[gf]? = w.heap[gf]?) : AG w' ga gf n m cn L := by
  obtain ⟨f, hf, hx⟩ := h.rf
  exact ⟨h.ra.of_block ea, f, hf.of_block ef, hx⟩

/-- One arrow more is counted. -/
theorem count_step {w : World} {g n y : Nat} {l : List Int} {c : Int} (h : w.rowIs g 3 n (fun x => .int .i64 (l.count (x : Int) : Nat))) (hc : c = (l.count (y : Int) : Nat)) :
    (w.setCell ⟨g, y, none⟩ (.int .i64 (c + 1))).rowIs g 3 n (fun x => .int .i64 ((l ++ [(y : Int)]).count (x : Int) : Nat)) := by
  refine (h.set y _).congr fun x _ => ?_
  by_cases e : x = y
  · subst e; simp [hc]
  · have e' : ((y : Int) == (x : Int)) = false := by simp; omega
    simp [e, e', List.count_cons]

/-- What newLinkLists leaves. -/
def MadeLL (oA : Option Addr) (n cA : Nat) (A : Nat → Option Addr) (C : Nat → Nat) (Z : Nat → List Int) (vP : Value) (w : World) (e : Ending) (w' : World) : Prop :=
  ∃ lb gl g0 g1 vg ga AGs CGs, e = .returned (.pointer (some ⟨lb, 0, none⟩)) ∧ Below w.heap.size w w' ∧
    LL w' ⟨lb, gl, g0, g1, n, .slice oA n cA, vg, vP, fun _ => false, fun _ => 0, fun _ => 0, none, 0, [], none, 0, [], none, 0, []⟩ ∧
    Ext w' ⟨lb, gl, g0, g1, n, .slice oA n cA, vg, vP, fun _ => false, fun _ => 0, fun _ => 0, none, 0, [], none, 0, [], none, 0, []⟩ ⟨n, oA, cA, A, C, Z, some ⟨ga, 0, none⟩, n, AGs, CGs, fun x => srcs Z x n⟩ ∧
    (∀ k, (St.mk lb gl g0 g1 n (.slice oA n cA) vg vP (fun _ => false) (fun _ => 0) (fun _ => 0) none 0 [] none 0 [] none 0 []).has k → w.heap.size ≤ k)

/-- The last loop: the two rows of follow counts. -/
def Follow (w4 wr : World) (lb n : Nat) (q : Value → Value → Array Value) (d : Nat) : Prop :=
  (d = 0 ∧ wr.heap[lb]? = some (.cells (q (.slice none 0 0) (.slice none 0 0)) 60 (0, 0))) ∨
  (d = 1 ∧ ∃ g0, w4.heap.size ≤ g0 ∧ wr.heap[lb]? = some (.cells (q (.slice (some ⟨g0, 0, none⟩) n n) (.slice none 0 0)) 60 (0, 0)) ∧ wr.rowIs g0 3 n (fun _ => .int .i64 0)) ∨
  (d = 2 ∧ ∃ g0 g1, w4.heap.size ≤ g0 ∧ w4.heap.size ≤ g1 ∧ g0 ≠ g1 ∧ wr.heap[lb]? = some (.cells (q (.slice (some ⟨g0, 0, none⟩) n n) (.slice (some ⟨g1, 0, none⟩) n n)) 60 (0, 0)) ∧
    wr.rowIs g0 3 n (fun _ => .int .i64 0) ∧ wr.rowIs g1 3 n (fun _ => .int .i64 0))

theorem newCells_set6 (vA vP : Value) (n ga gl : Nat) (q0 q1 u : Value) : (newCells vA vP n ga gl q0 q1).setIfInBounds 6 u = newCells vA vP n ga gl u q1 := by simp [newCells]
theorem newCells_set7 (vA vP : Value) (n ga gl : Nat) (q0 q1 u : Value) : (newCells vA vP n ga gl q0 q1).setIfInBounds 7 u = newCells vA vP n ga gl q0 u := by simp [newCells]

/-- All is laid: the lists. -/
theorem madeLL {w w4 w' : World} {oA : Option Addr} {n cA : Nat} {A : Nat → Option Addr} {C : Nat → Nat} {Z : Nat → List Int} {vP : Value} {lb ga gl gf m g0 g1 : Nat} {cn : Nat → Nat}
    (hmat : MatAt w oA n A C Z) (hbw : Below w.heap.size w w4) (hon : Only (fun b => b = lb) w4 w') (hag : AG w4 ga gf n m cn (fun x => srcs Z x n)) (hrl : w4.rowIs gl 4 n (fun _ => .bool false))
    (hcn : cn = fun x : Nat => (flat Z n).count (x : Int)) (hsum : sumTo cn n = m)
    (h0 : w4.heap.size ≤ g0) (h1 : w4.heap.size ≤ g1) (h01 : g0 ≠ g1) (hlb : w.heap.size ≤ lb) (hlb4 : lb < w4.heap.size) (hgl : w.heap.size ≤ gl) (hga : w.heap.size ≤ ga) (d1 : lb ≠ gl) (d2 : lb ≠ ga) (d3 : lb ≠ gf) (d4 : gl ≠ ga) (d5 : gl ≠ gf)
    (hblk : w'.heap[lb]? = some (.cells (newCells (.slice oA n cA) vP n ga gl (.slice (some ⟨g0, 0, none⟩) n n) (.slice (some ⟨g1, 0, none⟩) n n)) 60 (0, 0)))
    (hr0 : w'.rowIs g0 3 n (fun _ => .int .i64 0)) (hr1 : w'.rowIs g1 3 n (fun _ => .int .i64 0)) : MadeLL oA n cA A C Z vP w (.returned (.pointer (some ⟨lb, 0, none⟩))) w' := by
  have hgl4 := hrl.lt
  have hga4 := hag.ra.lt
  obtain ⟨f, hf, hfx⟩ := hag.rf
  have hgf4 := hf.lt
  have hrl' := hrl.of_block (hon.block gl hgl4 (by omega))
  have hra' := hag.ra.of_block (hon.block ga hga4 (by omega))
  have hf' := hf.of_block (hon.block gf hgf4 (by omega))
  have hb' : Below w.heap.size w w' := hon.below hbw (fun b hb => by omega) (by have := hbw.size; omega)
  have hws := hbw.size
  have hhas : ∀ k, (St.mk lb gl g0 g1 n (.slice oA n cA) (.slice (some ⟨ga, 0, none⟩) n n) vP (fun _ => false) (fun _ => 0) (fun _ => 0) none 0 [] none 0 [] none 0 []).has k → k = lb ∨ k = gl ∨ k = g0 ∨ k = g1 := by
    intro k hk
    unfold St.has at hk
    simpa using hk
  refine ⟨lb, gl, g0, g1, .slice (some ⟨ga, 0, none⟩) n n, ga, fun x => adrOf gf (sumTo cn x) (cn x), cn, rfl, hb', ⟨hblk, hrl', hr0, hr1, OwnInts.nil _, OwnInts.nil _, OwnInts.nil _, ?_, ?_, ?_, ?_, ?_, ?_, ?_⟩, ⟨rfl, rfl, rfl, ?_, ⟨Or.inr ⟨ga, 0, rfl, ?_, fun r hr => ?_⟩, fun r hr => ?_⟩⟩, ?_⟩
  · show lb ≠ gl ∧ lb ≠ g0 ∧ lb ≠ g1 ∧ gl ≠ g0 ∧ gl ≠ g1 ∧ g0 ≠ g1
    omega
  · intro g hg; cases hg
  · intro g hg; cases hg
  · intro g hg; cases hg
  · intro g hg; cases hg
  · intro g hg; cases hg
  · intro g hg; cases hg
  · exact hmat.p.keep (fun b hb _ => hb'.block b hb) (fun b hb _ hc => by have := hhas b hc; omega)
  · intro hc; have := hhas ga hc; omega
  · rw [Nat.zero_add]; exact hra'.cell hr
  · by_cases hz : srcs Z r n = []
    · exact Or.inl hz
    · have hl : (srcs Z r n).length = cn r := by rw [srcs_length, hcn]
      have hc0 : cn r ≠ 0 := by rw [← hl]; exact fun e => hz (List.eq_nil_of_length_eq_zero e)
      refine Or.inr ⟨gf, sumTo cn r, by show adrOf gf (sumTo cn r) (cn r) = _; unfold adrOf; rw [if_neg hc0], fun hc => by have := hhas gf hc; omega, fun i hi => ?_⟩
      have hpm : sumTo cn r + cn r ≤ m := by rw [← hsum]; exact sumTo_mono cn (show r + 1 ≤ n from hr)
      have hi' : i < (srcs Z r n).length := hi
      rw [hf'.cell (i := sumTo cn r + i) (by omega)]
      exact congrArg some (hfx r hr i hi')
  · intro k hk
    have := hhas k hk
    omega

end Go.Proofs.Qxb6617182a
