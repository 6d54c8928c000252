import Derived.Test.Qxb6617182aRestore
namespace Go.Proofs.Qxb6617182a
open Go.RowKit Go.Deep

def St.dropped (s : St) (v : Nat) (o : Option Addr) (c : Nat) : St := { s with left := fun i => if i = v then true else s.left i, o5 := o, c5 := c, dr := s.dr ++ [(v : Int)] }

/-- What drop leaves. -/
def DroppedNow (s : St) (v : Nat) (w : World) (e : Ending) (w' : World) : Prop :=
  e = .returned (.tuple #[]) ∧ ∃ o c, LL w' (s.dropped v o c) ∧ Moved w w' s (s.dropped v o c)

set_option maxHeartbeats 1000000 in
theorem drop43 (s : St) (v : Nat) (w : World) (h : LL w s) (hv : v < s.n) (hb : s.dr.length ≤ 10000000) :
    Calls Try.prog 43 #[.pointer (some ⟨s.lb, 0, none⟩), .int .i64 v] w (DroppedNow s v w) := by
  have c3 : w.cell? ⟨s.lb, 3, none⟩ = some (.slice (some ⟨s.gl, 0, none⟩) s.n s.n) := h.cell rfl
  have c5 : w.cell? ⟨s.lb, 5, none⟩ = some (.slice s.o5 s.dr.length s.c5) := h.cell rfl
  have cl := h.left.cell hv
  have fl := h.left.frozen v
  have h1 := h.setLeft v true
  have hm1 := St.movedSet (w := w) (s := s) (Or.inr (Or.inl rfl)) v (.bool true) { s with left := fun i => if i = v then true else s.left i } (fun k hk => hk)
  have hne := h.d.1
  have how : OwnInts (w.setCell ⟨s.gl, v, none⟩ (.bool true)) s.o5 s.c5 s.dr := h1.own5
  have hvI : (v : Int) < (s.n : Int) := by omega
  have H1 := hid h1
  have HM := hid hm1
  clear h1 h hm1
  go_enter Try.func43, Try.ntmps43
  go_wp2_with (at_builtin; refine wp_append1 _ rfl _ _ rfl s.o5 s.c5 s.dr v rfl rfl (by simp) how (by omega) ?_)
  intro g c' w1 ho1 hg1 hn1
  have kb := H1.out.blk5 hg1
  have c5' := cellOf kb (i := 5) rfl
  have f5 := frozen_of_row w1 s.lb 5 _ 60 kb
  have H' := hid (H1.out.grow5 ho1 hg1 (by simpa using hn1))
  clear ho1 hg1 hn1 kb how c3 c5 cl fl
  go_wp2
  go_end0
  exact ⟨rfl, some ⟨g, 0, none⟩, c', H'.out.1, HM.out.trans H'.out.2⟩

theorem drop36 (s : St) (v : Nat) (w : World) (h : LL w s) (hv : v < s.n) (hb : s.dr.length ≤ 10000000) :
    Calls Try.prog 36 #[.pointer (some ⟨s.lb, 0, none⟩), .int .i64 v] w (DroppedNow s v w) := by
  have hc := hid (drop43 s v w h hv hb)
  clear h
  go_enter Try.func36, Try.ntmps36
  go_wp2_with fail
  refine hc.out.mono ?_
  rintro e w' ⟨rfl, hp⟩
  have HP := hid hp
  clear hp
  go_wp2
  go_end0
  exact ⟨rfl, HP.out⟩

/-- What reinstate leaves. -/
def St.reinst (s : St) : St := { s with left := fun i => if (i : Int) ∈ s.dr then false else s.left i, dr := [] }

def Reinstated (s : St) (w : World) (e : Ending) (w' : World) : Prop := e = .returned (.tuple #[]) ∧ LL w' s.reinst ∧ Moved w w' s s.reinst

theorem upd_leftD (s : St) (k x : Nat) (hlt : k < s.dr.length) (hx : (x : Int) = s.dr.getD k 0) :
    ({ ({ s with left := fun i => if (i : Int) ∈ s.dr.take k then false else s.left i } : St) with left := fun i => if i = x then false else if (i : Int) ∈ s.dr.take k then false else s.left i } : St) = { s with left := fun i => if (i : Int) ∈ s.dr.take (k + 1) then false else s.left i } := by
  have e : (fun i : Nat => if i = x then false else if (i : Int) ∈ s.dr.take k then false else s.left i) = fun i : Nat => if (i : Int) ∈ s.dr.take (k + 1) then false else s.left i := by
    funext i
    rw [take_snoc _ _ hlt, ← hx]
    by_cases e : i = x
    · subst e; simp
    · have e' : ¬ (i : Int) = (x : Int) := by omega
      simp [e, e']
  simp only [e]

set_option maxHeartbeats 2000000 in
theorem reinstate44 (s : St) (w : World) (h : LL w s) (hdr : ∀ x ∈ s.dr, 0 ≤ x ∧ x < s.n) (hl5 : s.dr.length ≤ 10000000) :
    Calls Try.prog 44 #[.pointer (some ⟨s.lb, 0, none⟩)] w (Reinstated s w) := by
  have c5 : w.cell? ⟨s.lb, 5, none⟩ = some (.slice s.o5 s.dr.length s.c5) := h.cell rfl
  obtain ⟨o5, ho5⟩ : ∃ o, o = s.o5 := ⟨_, rfl⟩
  rw [← ho5] at c5
  have HO5 := hid ho5
  have H := hid h
  obtain ⟨e1, e2, e3, e4, e5, e6⟩ := h.d
  clear h ho5
  have hcut := run_cut0
  go_enter Try.func44, Try.ntmps44
  go_wp2
  clear c5
  go_loopw [9] (fun i wr => ∃ k : Nat, k ≤ s.dr.length ∧ i = .int .i64 k ∧ LL wr { s with left := fun i => if (i : Int) ∈ s.dr.take k then false else s.left i } ∧ Moved w wr s { s with left := fun i => if (i : Int) ∈ s.dr.take k then false else s.left i })
    (fun i _ => s.dr.length - (intOf i).toNat)
  case atStart => exact ⟨0, Nat.zero_le _, rfl, by simpa using H.out, by simpa using Moved.refl w s⟩
  case round =>
    obtain ⟨k, hk, rfl, hst, hmo⟩ := hrel
    have HS := hid hst
    have HM := hid hmo
    have c3 : wr.cell? ⟨s.lb, 3, none⟩ = some (.slice (some ⟨s.gl, 0, none⟩) s.n s.n) := hst.cell rfl
    have c5 : wr.cell? ⟨s.lb, 5, none⟩ = some (.slice o5 s.dr.length s.c5) := by rw [HO5.out]; exact hst.cell rfl
    have f5 : wr.frozen? ⟨s.lb, 5, none⟩ = false := hst.frozen 5
    clear hmo
    by_cases hlt : k < s.dr.length
    · rcases (show IntsAt wr o5 s.dr by rw [HO5.out]; exact hst.own5.at) with h0 | ⟨b2, off2, ho2, hc2⟩
      · simp [h0] at hlt
      obtain ⟨x, hx⟩ : ∃ x : Nat, (x : Int) = s.dr.getD k 0 := by
        have := hdr (s.dr.getD k 0) (by simp [List.getD, hlt])
        exact ⟨(s.dr.getD k 0).toNat, by omega⟩
      have hxn : x < s.n := by
        have := hdr (s.dr.getD k 0) (by simp [List.getD, hlt]); omega
      have hxI : (x : Int) < (s.n : Int) := by omega
      have ce : wr.cell? ⟨b2, off2 + k, none⟩ = some (.int .i64 (x : Int)) := by rw [hx]; exact hc2 k hlt
      have cl := hst.left.cell (i := x) hxn
      have fl := hst.left.frozen x
      have G := hst.setLeft x false
      have G2 := St.movedSet (w := wr) (s := { s with left := fun i => if (i : Int) ∈ s.dr.take k then false else s.left i }) (g := s.gl) (Or.inr (Or.inl rfl)) x (.bool false) { ({ s with left := fun i => if (i : Int) ∈ s.dr.take k then false else s.left i } : St) with left := fun i => if i = x then false else if (i : Int) ∈ s.dr.take k then false else s.left i } (fun k hk => hk)
      rw [upd_leftD s k x hlt hx] at G2
      have G' : LL _ _ := (upd_leftD s k x hlt hx) ▸ G
      have HG := hid G'
      have HG2 := hid (HM.out.trans G2)
      subst ho2
      clear hc2 hx hdr hst G G2 G'
      go_wp2
      go_roundw
      case rel => exact ⟨k + 1, by omega, by go_num, HG.out, HG2.out⟩
      case measure => simp [intOf]; omega
    · have hke : s.dr.take k = s.dr := List.take_of_length_le (by omega)
      rw [hke] at HS HM
      have hst1 := HS.out.cut5
      have hmo1 : Moved w _ s s.reinst := HM.out.trans (St.movedSet (w := wr) (s := { s with left := fun i => if (i : Int) ∈ s.dr then false else s.left i }) (g := s.lb) (Or.inl rfl) 5 (.slice s.o5 0 s.c5) s.reinst (fun k hk => hk))
      have HS1 := hid (show LL _ s.reinst from hst1)
      have HM1 := hid hmo1
      have hc5 := HO5.out
      subst hc5
      clear hst hst1 hmo1 HS HM hke hdr c3
      go_wp2
      go_end0
      exact ⟨rfl, HS1.out, HM1.out⟩

theorem reinstate37 (s : St) (w : World) (h : LL w s) (hdr : ∀ x ∈ s.dr, 0 ≤ x ∧ x < s.n) (hl5 : s.dr.length ≤ 10000000) :
    Calls Try.prog 37 #[.pointer (some ⟨s.lb, 0, none⟩)] w (Reinstated s w) := by
  have hc := hid (reinstate44 s w h hdr hl5)
  clear h hdr
  go_enter Try.func37, Try.ntmps37
  go_wp2_with fail
  refine hc.out.mono ?_
  rintro e w' ⟨rfl, hp⟩
  have HP := hid hp
  clear hp
  go_wp2
  go_end0
  exact ⟨rfl, HP.out⟩
end Go.Proofs.Qxb6617182a
