import Derived.Test.Qxb6617182aLL
import Derived.Deep.QuietTactic
import Derived.BigQuiet
import Derived.Deep.LoopGhost
namespace Go.Proofs.Qxb6617182a
open Go.RowKit Go.Deep

/-- The two lists of lists of a linkLists, which nothing writes to. -/
structure Net where
  n : Nat
  oA : Option Addr
  cA : Nat
  AA : Nat → Option Addr
  CA : Nat → Nat
  ZA : Nat → List Int
  oG : Option Addr
  cG : Nat
  AG : Nat → Option Addr
  CG : Nat → Nat
  ZG : Nat → List Int

structure Ext (w : World) (s : St) (N : Net) : Prop where
  n : s.n = N.n
  va : s.va = .slice N.oA N.n N.cA
  vg : s.vg = .slice N.oG N.n N.cG
  along : MatP (fun b => ¬ s.has b) w N.oA N.n N.AA N.CA N.ZA
  against : MatP (fun b => ¬ s.has b) w N.oG N.n N.AG N.CG N.ZG

theorem Ext.moved {w w' : World} {s s' : St} {N : Net} (h : Ext w s N) (m : Moved w w' s s') (en : s'.n = s.n) (ea : s'.va = s.va) (eg : s'.vg = s.vg) : Ext w' s' N :=
  ⟨en.trans h.n, ea.trans h.va, eg.trans h.vg, m.mat h.along, m.mat h.against⟩


def St.next0 (s : St) (v p : Nat) (o : Option Addr) (c : Nat) : St := { s with f0 := fun i => if i = v then p else s.f0 i, o8 := o, c8 := c, mv := if s.f0 v = 0 ∧ 0 < p then s.mv ++ [(v : Int)] else s.mv }

theorem St.next0_start (s : St) (v : Nat) : s.next0 v (s.f0 v) s.o8 s.c8 = s := by
  have e : (fun i => if i = v then s.f0 v else s.f0 i) = s.f0 := by
    funext i; by_cases h : i = v
    · subst h; simp
    · simp [h]
  unfold St.next0
  rw [e, if_neg (by omega)]

/-- The step of the loop where the count is not 0. -/
theorem St.next0_go (s : St) (v p : Nat) (o : Option Addr) (c : Nat) (hp : 0 < p) : { s.next0 v p o c with f0 := fun i => if i = v then p + 1 else (s.next0 v p o c).f0 i } = s.next0 v (p + 1) o c := by
  have e : (fun i => if i = v then p + 1 else (s.next0 v p o c).f0 i) = fun i => if i = v then p + 1 else s.f0 i := by
    funext i; by_cases h : i = v <;> simp [h, St.next0]
  rw [e]
  simp [St.next0, hp]

/-- The step of the loop where the count is 0: moved has grown. -/
theorem St.next0_first (s : St) (v : Nat) (o o' : Option Addr) (c c' : Nat) (h0 : s.f0 v = 0) :
    { ({ s.next0 v 0 o c with o8 := o', c8 := c', mv := (s.next0 v 0 o c).mv ++ [(v : Int)] } : St) with f0 := fun i => if i = v then 0 + 1 else (s.next0 v 0 o c).f0 i } = s.next0 v 1 o' c' := by
  have e : (fun i => if i = v then 0 + 1 else (s.next0 v 0 o c).f0 i) = fun i => if i = v then 1 else s.f0 i := by
    funext i; by_cases h : i = v <;> simp [h, St.next0]
  rw [e]
  simp [St.next0, h0]

/-- What next leaves, direction 0: it stands at p: all from the old count to p are left out; the node at p is given, or there is none. -/
def NextAt0 (s : St) (v : Nat) (zs : List Int) (w : World) (e : Ending) (w' : World) : Prop :=
  ∃ p o c, s.f0 v ≤ p ∧ p ≤ zs.length ∧ (∀ q, s.f0 v ≤ q → q < p → s.left (zs.getD q 0).toNat = true) ∧
    ((p = zs.length ∧ e = .returned (.tuple #[.int .i64 0, .bool false])) ∨ (p < zs.length ∧ s.left (zs.getD p 0).toNat = false ∧ e = .returned (.tuple #[.int .i64 (zs.getD p 0), .bool true]))) ∧
    LL w' (s.next0 v p o c) ∧ Moved w w' s (s.next0 v p o c)

set_option maxHeartbeats 2000000 in
theorem next45_0 (s : St) (N : Net) (v : Nat) (w : World) (h : LL w s) (hx : Ext w s N) (hv : v < N.n) (hf : s.f0 v ≤ (N.ZA v).length) (hm : (N.ZA v).length ≤ 1048576) (hin : ∀ x ∈ N.ZA v, 0 ≤ x ∧ x < N.n) (hmv : s.mv.length ≤ 1000000) (_hn : N.n ≤ 1048576) :
    Calls Try.prog 45 #[.pointer (some ⟨s.lb, 0, none⟩), .int .i64 v, .bool false] w (NextAt0 s v (N.ZA v) w) := by
  have hsn := hx.n
  have c0 : w.cell? ⟨s.lb, 0, none⟩ = some (.slice N.oA N.n N.cA) := by rw [← hx.va]; exact h.cell rfl
  have c6 : w.cell? ⟨s.lb, 6, none⟩ = some (.slice (some ⟨s.g0, 0, none⟩) N.n N.n) := by rw [← hsn]; exact h.cell rfl
  obtain ⟨bA, offA, hoA, _, hcA⟩ : ∃ b off, N.oA = some ⟨b, off, none⟩ ∧ ¬ s.has b ∧ ∀ r, r < N.n → w.cell? ⟨b, off + r, none⟩ = some (.slice (N.AA r) (N.ZA r).length (N.CA r)) := by
    rcases hx.along.1 with h0 | h1
    · omega
    · exact h1
  have ca := hcA v hv
  rw [hoA] at c0
  have hrow := (hx.along.2 v hv).keep (w' := w) (fun _ _ _ => rfl) (fun _ hb _ => hb)
  obtain ⟨zs, hzs⟩ : ∃ zs, zs = N.ZA v := ⟨_, rfl⟩
  rw [← hzs] at hf hm hin hrow ⊢
  rw [← hzs] at ca
  obtain ⟨av, hav⟩ : ∃ a, a = N.AA v := ⟨_, rfl⟩
  rw [← hav] at ca hrow
  clear hav
  have hvI : (v : Int) < (N.n : Int) := by omega
  have H := hid h
  have HX := hid hx
  have HN := hid hsn
  clear h hx hsn hcA hzs hoA
  go_enter Try.func45, Try.ntmps45
  go_wp2
  go_quiet (fail)
  go_wp2
  clear c0 ca 
  go_loopg [] (zs.length - s.f0 v) (fun gk wr => ∃ p o c, gk = zs.length - p ∧ s.f0 v ≤ p ∧ p ≤ zs.length ∧ (∀ q, s.f0 v ≤ q → q < p → s.left (zs.getD q 0).toNat = true) ∧ LL wr (s.next0 v p o c) ∧ Moved w wr s (s.next0 v p o c))
  case atStart =>
    refine ⟨s.f0 v, s.o8, s.c8, rfl, Nat.le_refl _, hf, fun q h1 h2 => by omega, ?_, ?_⟩
    · rw [St.next0_start]; exact H.out.keep (fun _ _ _ => rfl)
    · rw [St.next0_start]; exact (Moved.refl w s).drawn _
  case round =>
    obtain ⟨p, o, c, hgk, hp1, hp2, hall, hst, hmo⟩ := hrel
    have HG := hid hgk
    have HA := hid hall
    have HM := hid hmo
    have HS := hid hst
    have cf : wr.cell? ⟨s.g0, v, none⟩ = some (.int .i64 (p : Int)) := by
      have := hst.f0.cell (i := v) (by show v < s.n; rw [HN.out]; exact hv)
      simpa [St.next0] using this
    have ff : wr.frozen? ⟨s.g0, v, none⟩ = false := hst.f0.frozen v
    have h_d := hid H.out.d
    have hlb : s.lb ≠ s.g0 := by have := h_d.out; omega
    clear hgk hall hmo hf hst
    by_cases hlt : p < zs.length
    · rcases hrow with h0 | ⟨b2, off2, ho2, hnb, hc2⟩
      · simp [h0] at hlt
      obtain ⟨x, hx⟩ : ∃ x : Nat, (x : Int) = zs.getD p 0 := by
        have := hin (zs.getD p 0) (by simp [List.getD, hlt])
        exact ⟨(zs.getD p 0).toNat, by omega⟩
      have hxn : x < N.n := by
        have := hin (zs.getD p 0) (by simp [List.getD, hlt]); omega
      have hxI : (x : Int) < (N.n : Int) := by omega
      have ce : wr.cell? ⟨b2, off2 + p, none⟩ = some (.int .i64 (x : Int)) := by
        rw [hx]
        exact (World.cell?_of_block (w := w) (HM.out.block b2 (World.block_lt_of_cell? w _ (hc2 p hlt)) hnb)).trans (hc2 p hlt)
      have c3 : wr.cell? ⟨s.lb, 3, none⟩ = some (.slice (some ⟨s.gl, 0, none⟩) N.n N.n) := by rw [← HN.out]; exact HS.out.cell rfl
      have cl : wr.cell? ⟨s.gl, x, none⟩ = some (.bool (s.left x)) := HS.out.left.cell (i := x) (by show x < s.n; rw [HN.out]; exact hxn)
      have hxt : (zs.getD p 0).toNat = x := by omega
      have HXX := hid hx
      have HXT := hid hxt
      subst ho2
      clear hc2 hx hxt hin
      cases hleft : s.left x with
      | false =>
        rw [hleft] at cl
        have HL := hid hleft
        clear hleft
        go_wp2
        go_ret2
        refine ⟨p, o, c, hp1, hp2, HA.out, Or.inr ⟨hlt, ?_, ?_⟩, HS.out, HM.out⟩
        · rw [HXT.out]; exact HL.out
        · rw [← HXX.out]; rfl
      | true =>
        rw [hleft] at cl
        have HL := hid hleft
        clear hleft
        have hall' : ∀ q, s.f0 v ≤ q → q < p + 1 → s.left (zs.getD q 0).toNat = true := fun q h1 h2 => by
          by_cases e : q = p
          · subst e; rw [HXT.out]; exact HL.out
          · exact HA.out q h1 (by omega)
        have HA' := hid hall'
        clear hall'
        have ep : ((p + 1 : Nat) : Int) = (p : Int) + 1 := by omega
        by_cases hp0 : p = 0
        · subst hp0
          have hf0 : s.f0 v = 0 := by omega
          have hmv0 : (s.next0 v 0 o c).mv = s.mv := by simp [St.next0]
          have c8 : wr.cell? ⟨s.lb, 8, none⟩ = some (.slice o s.mv.length c) := by rw [← hmv0]; exact HS.out.cell rfl
          have how : OwnInts wr o c s.mv := by rw [← hmv0]; exact HS.out.own8
          have HF0 := hid hf0
          have HMV := hid hmv0
          clear hf0 hmv0 ep
          simp only [Int.natCast_zero] at cf
          rw [Nat.add_zero] at ce
          go_wp2_with (at_builtin; refine wp_append1 _ rfl _ _ rfl o c s.mv v rfl rfl rfl how (by omega) ?_)
          intro g c' w1 ho1 hg1 hn1
          have kb := HS.out.blk8 hg1
          have c8' : w1.cell? ⟨s.lb, 8, none⟩ = some (.slice o s.mv.length c) := by rw [← HMV.out]; exact cellOf kb (i := 8) rfl
          have f8 : w1.frozen? ⟨s.lb, 8, none⟩ = false := frozen_of_row w1 s.lb 8 _ 60 kb
          have G := HS.out.grow8 (v := (v : Int)) (by rw [HMV.out]; exact ho1) hg1 hn1
          rw [HMV.out] at G
          obtain ⟨G1, G2⟩ := G
          have cf1 : w1.cell? ⟨s.g0, v, none⟩ = some (.int .i64 0) := by
            have t := G1.f0.cell (i := v) (by show v < s.n; rw [HN.out]; exact hv)
            have t2 : (w1.setCell ⟨s.lb, 8, none⟩ (.slice (some ⟨g, 0, none⟩) (s.mv.length + 1) c')).cell? ⟨s.g0, v, none⟩ = w1.cell? ⟨s.g0, v, none⟩ := World.cell?_of_block (Below.heap_setCell _ _ _ _ (by simp; omega))
            exact t2.symm.trans (t.trans (by simp [St.next0]))
          have ff1 : w1.frozen? ⟨s.g0, v, none⟩ = false := by
            have t := G1.f0.frozen v
            have t2 : (w1.setCell ⟨s.lb, 8, none⟩ (.slice (some ⟨g, 0, none⟩) (s.mv.length + 1) c')).frozen? ⟨s.g0, v, none⟩ = w1.frozen? ⟨s.g0, v, none⟩ := World.frozen?_of_block (Below.heap_setCell _ _ _ _ (by simp; omega))
            exact t2.symm.trans t
          have G3 := G1.setF0 v (0 + 1)
          have G4 := St.movedSet (w := w1.setCell ⟨s.lb, 8, none⟩ (.slice (some ⟨g, 0, none⟩) (s.mv.length + 1) c')) (s := { s.next0 v 0 o c with o8 := some ⟨g, 0, none⟩, c8 := c', mv := s.mv ++ [(v : Int)] }) (g := s.g0) (Or.inr (Or.inr (Or.inl rfl))) v (.int .i64 ((0 + 1 : Nat) : Int))
            { ({ s.next0 v 0 o c with o8 := some ⟨g, 0, none⟩, c8 := c', mv := s.mv ++ [(v : Int)] } : St) with f0 := fun i => if i = v then 0 + 1 else (s.next0 v 0 o c).f0 i } (fun k hk => hk)
          have EQ := St.next0_first s v o (some ⟨g, 0, none⟩) c c' HF0.out
          rw [HMV.out] at EQ
          rw [EQ] at G4
          have G3' : LL _ (s.next0 v 1 (some ⟨g, 0, none⟩) c') := EQ ▸ G3
          have HG3 := hid G3'
          have HG4 := hid (HM.out.trans (G2.trans G4))
          clear G1 G2 G3 G4 G3' EQ kb ho1 hg1 hn1 how c3 cl c8 ce cf ff
          go_wp2
          go_roundg (zs.length - 1)
          case measure => have := HG.out; omega
          case rel =>
            exact ⟨1, some ⟨g, 0, none⟩, c', rfl, by have := HF0.out; omega, by omega, fun q h1 h2 => HA'.out q h1 (by omega), HG3.out, HG4.out⟩
        · have hp0' : ((p : Int) == 0) = false := by simp; omega
          have G3 := HS.out.setF0 v (p + 1)
          have G4 := St.movedSet (w := wr) (s := s.next0 v p o c) (g := s.g0) (Or.inr (Or.inr (Or.inl rfl))) v (.int .i64 ((p + 1 : Nat) : Int)) { s.next0 v p o c with f0 := fun i => if i = v then p + 1 else (s.next0 v p o c).f0 i } (fun k hk => hk)
          have EQ := St.next0_go s v p o c (by omega)
          rw [ep] at G3 G4
          rw [EQ] at G4
          have G3' : LL _ (s.next0 v (p + 1) o c) := EQ ▸ G3
          have HG3 := hid G3'
          have HG4 := hid (HM.out.trans G4)
          clear G3 G4 G3' EQ ep
          go_wp2
          go_roundg (zs.length - (p + 1))
          case measure => have := HG.out; omega
          case rel => exact ⟨p + 1, o, c, rfl, by omega, by omega, HA'.out, HG3.out, HG4.out⟩
    · have hpe : p = zs.length := by omega
      have HP := hid hpe
      clear hpe hrow hin
      go_wp2
      go_ret2
      exact ⟨p, o, c, hp1, hp2, HA.out, Or.inl ⟨HP.out, rfl⟩, HS.out, HM.out⟩

end Go.Proofs.Qxb6617182a
