import Derived.Test.Qxb6617182aOwn
import Derived.Test.Qxb6617182aPlain
namespace Go.Proofs.Qxb6617182a
open Go.RowKit Go.Deep

/-- It returns a slice of these numbers in new memory. -/
def GotInts (zs : List Int) (w : World) (e : Ending) (w' : World) : Prop :=
  ∃ o c, e = .returned (.slice o zs.length c) ∧ Below w.heap.size w w' ∧ IntsP (fun b => w.heap.size ≤ b) w' o zs

/-- The state of the forward loop. -/
structure FwdAt (B n : Nat) (F : List Int) (w wr : World) (o : Option Addr) (c : Nat) : Prop where
  below : Below B w wr
  size : B < wr.heap.size
  seen : wr.rowIs B 4 n (fun i => .bool (decide ((i : Int) ∈ F)))
  out : OwnInts wr o c F
  off : ∀ g, o = some ⟨g, 0, none⟩ → B < g

theorem FwdAt.old {B n : Nat} {F : List Int} {w wr : World} {o : Option Addr} {c : Nat} (h : FwdAt B n F w wr o c) {x : Int} (hx : x ∈ F) : FwdAt B n (addNew F x) w wr o c := by
  unfold addNew; rw [if_pos hx]; exact h

theorem FwdAt.new {B n : Nat} {F : List Int} {w wr w1 : World} {o : Option Addr} {c g c' : Nat} {x : Nat} (h : FwdAt B n F w wr o c) (hx : ¬ (x : Int) ∈ F)
    (ho : OwnInts w1 (some ⟨g, 0, none⟩) c' (F ++ [(x : Int)])) (hg : (wr.setCell ⟨B, x, none⟩ (.bool true)).grownBy w1 (o.map Addr.block)) (hn : o = some ⟨g, 0, none⟩ ∨ wr.heap.size < g) :
    FwdAt B n (addNew F x) w w1 (some ⟨g, 0, none⟩) c' := by
  have hB := h.size
  have hsz : (wr.setCell ⟨B, x, none⟩ (.bool true)).heap.size = wr.heap.size := by simp
  unfold addNew
  rw [if_neg hx]
  have hne : some B ≠ o.map Addr.block := by
    rcases h.out.form with ⟨rfl, _, _⟩ | ⟨g0, rfl, _, _⟩
    · simp
    · have := h.off g0 rfl; simp; omega
  refine ⟨?_, ?_, ?_, ho, ?_⟩
  · refine (h.below.setCell (Nat.le_refl _) _).grown hg (by omega) ?_
    intro k hk
    rcases h.out.form with ⟨rfl, _, _⟩ | ⟨g0, rfl, _, _⟩
    · simp at hk
    · have := h.off g0 rfl; simp at hk; omega
  · have := hg.size; omega
  · refine ((h.seen.set x _).of_block (hg.block B (by omega) hne)).congr fun j hj => ?_
    by_cases e : j = x
    · subst e; simp
    · simp [e, show ¬ (j : Int) = (x : Int) by omega]
  · intro g' hg'
    simp at hg'
    subst hg'
    rcases hn with hn | hn
    · exact h.off g hn
    · omega

set_option maxHeartbeats 1000000 in
theorem neigh_fwd (o : Option Addr) (n c : Nat) (A : Nat → Option Addr) (C : Nat → Nat) (Z : Nat → List Int) (v : Nat) (w : World) (h : MatAt w o n A C Z) (hn : n ≤ 1048576) (hv : v < n) (hm : (Z v).length ≤ 1048576)
    (hin : ∀ x ∈ Z v, 0 ≤ x ∧ x < n) :
    Calls Try.prog 28 #[.slice o n c, .int .i64 v, .bool false] w (GotInts (firsts (Z v)) w) := by
  obtain ⟨h1, h2⟩ := h
  rcases h1 with h1 | ⟨b, off, ho, hc⟩
  · omega
  subst ho
  have hck : w.cell? ⟨b, off + v, none⟩ = some (.slice (A v) (Z v).length (C v)) := hc v hv
  have hrow := h2 v hv
  have hb0 := World.block_lt_of_cell? w _ hck
  clear hc h2
  obtain ⟨zs, hzs⟩ : ∃ zs, zs = Z v := ⟨_, rfl⟩
  rw [← hzs] at hck hrow hm hin ⊢
  clear hzs
  have hvI : (v : Int) < (n : Int) := by omega
  have hmk := run_make_row' (P := Try.prog) 38 4 (.bool false) 1 Try.underlying38 Try.info4 rfl .i64 .i64 n (by omega) (by omega)
  have hne : b ≠ w.heap.size := by simp at hb0; omega
  go_enter Try.func28, Try.ntmps28
  go_wp2
  clear hmk
  go_loopw [8, 14] (fun out i wr => ∃ (k : Nat) (oo : Option Addr) (cc : Nat), k ≤ zs.length ∧ i = .int .i64 k ∧ out = .slice oo (firsts (zs.take k)).length cc ∧ FwdAt w.heap.size n (firsts (zs.take k)) w wr oo cc)
    (fun _ i _ => zs.length - (intOf i).toNat)
  case atStart =>
    refine ⟨0, none, 0, Nat.zero_le _, rfl, by simp [firsts], (Below.refl _ _).alloc (Nat.le_refl _) _, by simp, ?_, by simpa [firsts] using OwnInts.nil _, fun g hg => by cases hg⟩
    exact (World.rowIs_made w (.bool false) n 4).congr (fun i _ => by simp [firsts])
  case round =>
    obtain ⟨k, oo, cc, hk, rfl, rfl, hst⟩ := hrel
    by_cases hlt : k < zs.length
    · rcases hrow with hrow | ⟨b2, off2, ho2, hc2⟩
      · simp [hrow] at hlt
      rw [ho2] at hck ⊢
      obtain ⟨x, hx⟩ : ∃ x : Nat, (x : Int) = zs.getD k 0 := by
        have := hin (zs.getD k 0) (by simp [List.getD, hlt])
        exact ⟨(zs.getD k 0).toNat, by omega⟩
      have hxn : x < n := by
        have := hin (zs.getD k 0) (by simp [List.getD, hlt]); omega
      have hxI : (x : Int) < (n : Int) := by omega
      have e1 : wr.cell? ⟨b2, off2 + k, none⟩ = some (.int .i64 (x : Int)) := by rw [hx]; exact (hst.below.cell (World.block_lt_of_cell? w _ (hc2 k hlt))).trans (hc2 k hlt)
      have hb2 := World.block_lt_of_cell? w _ (hc2 k hlt)
      have hb2' : b2 ≠ w.heap.size := by simp at hb2; omega
      have hft := firsts_take zs k hlt
      rw [← hx] at hft
      have hF := firsts_len (zs.take k)
      have hF2 : (zs.take k).length ≤ k := List.length_take_le _ _
      obtain ⟨F, hFd⟩ : ∃ F, F = firsts (zs.take k) := ⟨_, rfl⟩
      rw [← hFd] at hft hst hF ⊢
      have HF := hid hft
      have hcs := hst.seen.cell hxn
      have hfz := hst.seen.frozen x
      clear hft hFd hc2 hx ho2 hin
      by_cases hmem : (x : Int) ∈ F
      · have H := hid (hst.old hmem)
        have hcs' : wr.cell? ⟨w.heap.size, x, none⟩ = some (.bool true) := by rw [hcs]; simp [hmem]
        have HM := hid hmem
        clear hcs hst hmem
        go_wp2
        go_roundw
        case rel => 
          refine ⟨k + 1, oo, cc, by omega, by go_num, ?_, ?_⟩
          · rw [HF.out, addNew, if_pos HM.out]
          · rw [HF.out]; exact H.out
        case measure => simp [intOf]; omega
      · have hcs' : wr.cell? ⟨w.heap.size, x, none⟩ = some (.bool false) := by rw [hcs]; simp [hmem]
        have how : OwnInts (wr.setCell ⟨w.heap.size, x, none⟩ (.bool true)) oo cc F := hst.out.keep fun g hg hl => Below.heap_setCell _ _ _ _ (by have := hst.off g hg; simp; omega)
        have H := hid hst
        have HM := hid hmem
        clear hcs hst hmem
        go_wp2_with (at_builtin; refine wp_append1 _ rfl _ _ rfl oo cc F x rfl rfl (by simp) how (by omega) ?_)
        intro g c' w1 ho1 hg1 hn1
        have H' := hid (H.out.new HM.out ho1 hg1 hn1)
        clear ho1 hg1 hn1 H
        go_wp2
        go_roundw
        case rel => 
          refine ⟨k + 1, some ⟨g, 0, none⟩, c', by omega, by go_num, ?_, ?_⟩
          · rw [HF.out, addNew, if_neg HM.out]; simp
          · rw [HF.out]; exact H'.out
        case measure => simp [intOf]; omega
    · have : zs.take k = zs := List.take_of_length_le (by omega)
      rw [this] at hst ⊢
      have H := hid hst
      clear hst hrow hin this
      go_wp2
      go_ret
      have hst := H.out
      exact ⟨oo, cc, rfl, hst.below, hst.out.ints.keep (fun _ _ _ => rfl) (fun g hg _ => by have := hst.off g hg; omega)⟩

/-- The state of the backward loop. -/
structure BackAt (B : Nat) (F : List Int) (w wr : World) (o : Option Addr) (c : Nat) : Prop where
  below : Below B w wr
  size : B ≤ wr.heap.size
  out : OwnInts wr o c F
  off : ∀ g, o = some ⟨g, 0, none⟩ → B ≤ g

theorem BackAt.new {B : Nat} {F : List Int} {w wr w1 : World} {o : Option Addr} {c g c' : Nat} {x : Int} (h : BackAt B F w wr o c)
    (ho : OwnInts w1 (some ⟨g, 0, none⟩) c' (F ++ [x])) (hg : wr.grownBy w1 (o.map Addr.block)) (hn : o = some ⟨g, 0, none⟩ ∨ wr.heap.size < g) :
    BackAt B (F ++ [x]) w w1 (some ⟨g, 0, none⟩) c' := by
  have hB := h.size
  refine ⟨?_, ?_, ho, ?_⟩
  · refine h.below.grown hg (by omega) ?_
    intro k hk
    rcases h.out.form with ⟨rfl, _, _⟩ | ⟨g0, rfl, _, _⟩
    · simp at hk
    · have := h.off g0 rfl; simp at hk; omega
  · have := hg.size; omega
  · intro g' hg'
    simp at hg'
    subst hg'
    rcases hn with hn | hn
    · exact h.off g hn
    · omega

set_option maxHeartbeats 1000000 in
theorem neigh_back (o : Option Addr) (n c : Nat) (A : Nat → Option Addr) (C : Nat → Nat) (Z : Nat → List Int) (v : Int) (w : World) (h : MatAt w o n A C Z) (hn : n ≤ 1048576) (hm : ∀ r, r < n → (Z r).length ≤ 1048576) :
    Calls Try.prog 28 #[.slice o n c, .int .i64 v, .bool true] w (GotInts (backTo Z v n) w) := by
  go_enter Try.func28, Try.ntmps28
  go_wp2
  go_loopw [8, 9] (fun out i wr => ∃ (k : Nat) (oo : Option Addr) (cc : Nat), k ≤ n ∧ i = .int .i64 k ∧ out = .slice oo (backTo Z v k).length cc ∧ BackAt w.heap.size (backTo Z v k) w wr oo cc)
    (fun _ i _ => n - (intOf i).toNat)
  case atStart => exact ⟨0, none, 0, Nat.zero_le _, rfl, rfl, Below.refl _ _, Nat.le_refl _, OwnInts.nil _, fun g hg => by cases hg⟩
  case round =>
    obtain ⟨k, oo, cc, hk, rfl, rfl, hst⟩ := hrel
    by_cases hlt : k < n
    · obtain ⟨h1, h2⟩ := h
      rcases h1 with h1 | ⟨b, off, ho, hc⟩
      · omega
      subst ho
      have hck : w.cell? ⟨b, off + k, none⟩ = some (.slice (A k) (Z k).length (C k)) := hc k hlt
      have hcell : wr.cell? ⟨b, off + k, none⟩ = some (.slice (A k) (Z k).length (C k)) := (hst.below.cell (World.block_lt_of_cell? w _ hck)).trans hck
      have hrow : IntsAt wr (A k) (Z k) := (h2 k hlt).below hst.below
      have hml := hm k hlt
      have hbl := backTo_len Z v k
      have HB := hid (show backTo Z v (k + 1) = if v ∈ Z k then backTo Z v k ++ [(k : Int)] else backTo Z v k from rfl)
      obtain ⟨F, hF⟩ : ∃ F, F = backTo Z v k := ⟨_, rfl⟩
      rw [← hF] at hbl hst HB ⊢
      have H := hid hst
      have how := hst.out
      obtain ⟨zs, hzs⟩ : ∃ zs, zs = Z k := ⟨_, rfl⟩
      rw [← hzs] at hcell hrow hml HB
      clear hF hst hc h2 hm hck hzs
      go_wp2
      go_loop [8, 11] (fun out i => ∃ j : Nat, j ≤ zs.length ∧ i = .int .i64 j ∧ out = .slice oo F.length cc ∧ ¬ v ∈ zs.take j) (fun _ i => zs.length - (intOf i).toNat)
      case atStart => exact ⟨0, Nat.zero_le _, rfl, rfl, by simp⟩
      case round =>
        obtain ⟨j, hj, rfl, rfl, hno⟩ := hrel
        have HN := hid hno
        clear hno
        by_cases hlt2 : j < zs.length
        · rcases hrow with hrow | ⟨b2, off2, ho2, hc2⟩
          · simp [hrow] at hlt2
          rw [ho2] at hcell ⊢
          have hcj := hc2 j hlt2
          clear hc2
          obtain ⟨x, hx⟩ : ∃ x, x = zs.getD j 0 := ⟨_, rfl⟩
          rw [← hx] at hcj
          have HX := hid hx
          clear hx ho2
          by_cases hxv : (x == v) = true
          · have hmem : v ∈ zs := by
              have hxv' : x = v := by simpa using hxv
              rw [← hxv', HX.out]; simp [List.getD, hlt2]
            have HM := hid hmem
            clear hmem
            go_wp2_with (at_builtin; refine wp_append1 _ rfl _ _ rfl oo cc F k rfl rfl rfl how (by omega) ?_)
            intro g c' w1 ho1 hg1 hn1
            have H' := hid (H.out.new ho1 hg1 hn1)
            clear ho1 hg1 hn1 H how
            go_wp2
            go_roundw
            case rel =>
              refine ⟨k + 1, some ⟨g, 0, none⟩, c', by omega, by go_num, ?_, ?_⟩
              · rw [HB.out, if_pos HM.out]; simp
              · rw [HB.out, if_pos HM.out]; exact H'.out
            case measure => simp [intOf]; omega
          · have hxv' : (x == v) = false := by simpa using hxv
            clear hxv
            go_wp2
            go_round
            case rel =>
              refine ⟨j + 1, by omega, by go_num, rfl, ?_⟩
              rw [take_snoc zs j hlt2, List.mem_append, ← HX.out]
              rintro (h | h)
              · exact HN.out h
              · simp at h; subst h; simp at hxv'
            case measure => simp [intOf]; omega
        · have hno : ¬ v ∈ zs := by have := HN.out; rwa [List.take_of_length_le (by omega)] at this
          have HM := hid hno
          clear hno how hrow
          go_wp2
          go_roundw
          case rel =>
            refine ⟨k + 1, oo, cc, by omega, by go_num, ?_, ?_⟩
            · rw [HB.out, if_neg HM.out]
            · rw [HB.out, if_neg HM.out]; exact H.out
          case measure => simp [intOf]; omega
    · obtain rfl : k = n := by omega
      have H := hid hst
      clear hst h hm
      go_wp2
      go_ret
      have hst := H.out
      exact ⟨oo, cc, rfl, hst.below, hst.out.ints.keep (fun _ _ _ => rfl) (fun g hg _ => hst.off g hg)⟩
end Go.Proofs.Qxb6617182a
