import Derived.Test.Qxb6617182aLL
namespace Go.Proofs.Qxb6617182a
open Go.RowKit Go.Deep

/-- What leaveOut leaves of a node that was not left out. -/
def LeftNow (s : St) (v : Nat) (w : World) (e : Ending) (w' : World) : Prop :=
  e = .returned (.bool true) ∧ ∃ o c, LL w' { s with left := fun i => if i = v then true else s.left i, o4 := o, c4 := c, lo := s.lo ++ [(v : Int)] } ∧
    Moved w w' s { s with left := fun i => if i = v then true else s.left i, o4 := o, c4 := c, lo := s.lo ++ [(v : Int)] }

set_option maxHeartbeats 1000000 in
theorem leaveOut46 (s : St) (v : Nat) (w : World) (h : LL w s) (hv : v < s.n) (hl : s.left v = false) (hb : s.lo.length ≤ 10000000) :
    Calls Try.prog 46 #[.pointer (some ⟨s.lb, 0, none⟩), .int .i64 v] w (LeftNow s v w) := by
  have c3 : w.cell? ⟨s.lb, 3, none⟩ = some (.slice (some ⟨s.gl, 0, none⟩) s.n s.n) := h.cell rfl
  have c4 : w.cell? ⟨s.lb, 4, none⟩ = some (.slice s.o4 s.lo.length s.c4) := h.cell rfl
  have cl : w.cell? ⟨s.gl, v, none⟩ = some (.bool false) := by rw [h.left.cell hv, hl]
  have fl := h.left.frozen v
  have h1 := h.setLeft v true
  have hm1 := St.movedSet (w := w) (s := s) (Or.inr (Or.inl rfl)) v (.bool true) { s with left := fun i => if i = v then true else s.left i } (fun k hk => hk)
  have hne := h.d.1
  have how : OwnInts (w.setCell ⟨s.gl, v, none⟩ (.bool true)) s.o4 s.c4 s.lo := h1.own4
  have hvI : (v : Int) < (s.n : Int) := by omega
  have H1 := hid h1
  have HM := hid hm1
  clear h1 h hl hm1
  go_enter Try.func46, Try.ntmps46
  go_wp2_with (at_builtin; refine wp_append1 _ rfl _ _ rfl s.o4 s.c4 s.lo v rfl rfl (by simp) how (by omega) ?_)
  intro g c' w1 ho1 hg1 hn1
  have kb := H1.out.blk4 hg1
  have c4' := cellOf kb (i := 4) rfl
  have f4 := frozen_of_row w1 s.lb 4 _ 60 kb
  have H' := hid (H1.out.grow4 ho1 hg1 (by simpa using hn1))
  clear ho1 hg1 hn1 kb how c3 c4 cl fl
  go_wp2
  go_ret
  exact ⟨rfl, some ⟨g, 0, none⟩, c', H'.out.1, HM.out.trans H'.out.2⟩

theorem leaveOut41 (s : St) (v : Nat) (w : World) (h : LL w s) (hv : v < s.n) (hl : s.left v = false) (hb : s.lo.length ≤ 10000000) :
    Calls Try.prog 41 #[.pointer (some ⟨s.lb, 0, none⟩), .int .i64 v] w (LeftNow s v w) := by
  have hc := hid (leaveOut46 s v w h hv hl hb)
  clear h hl
  go_enter Try.func41, Try.ntmps41
  go_wp2_with fail
  refine hc.out.mono ?_
  rintro e w' ⟨rfl, hp⟩
  have HP := hid hp
  clear hp
  go_wp2
  go_ret
  exact ⟨rfl, HP.out⟩
end Go.Proofs.Qxb6617182a
