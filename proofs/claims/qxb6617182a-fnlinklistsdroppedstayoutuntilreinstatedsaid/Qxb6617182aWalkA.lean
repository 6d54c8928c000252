import Derived.Test.Qxb6617182aNextB
import Derived.Test.Qxb6617182aLeave
import Derived.Test.Qxb6617182aRestore
namespace Go.Proofs.Qxb6617182a
open Go.RowKit Go.Deep

theorem LL.has_lt {w : World} {s : St} (h : LL w s) {k : Nat} (hk : s.has k) : k < w.heap.size := by
  rcases hk with rfl | rfl | rfl | rfl | e | e | e
  · exact h.lt
  · exact h.left.lt
  · exact h.f0.lt
  · exact h.f1.lt
  · rcases h.own4.form with ⟨e', _, _⟩ | ⟨g, e', hl, _⟩
    · rw [e'] at e; cases e
    · rw [e'] at e; simp at e; omega
  · rcases h.own5.form with ⟨e', _, _⟩ | ⟨g, e', hl, _⟩
    · rw [e'] at e; cases e
    · rw [e'] at e; simp at e; omega
  · rcases h.own8.form with ⟨e', _, _⟩ | ⟨g, e', hl, _⟩
    · rw [e'] at e; cases e
    · rw [e'] at e; simp at e; omega

theorem Moved.grown {w wr w1 : World} {s s' : St} (h : Moved w wr s s') {row : Option Nat} (hg : wr.grownBy w1 row) (hr : ∀ k, row = some k → w.heap.size ≤ k) : Moved w w1 s s' :=
  ⟨hg.os.trans h.os, hg.tape.trans h.tape, hg.output.trans h.output, Nat.le_trans h.size hg.size,
    fun k hk hn => (hg.block k (Nat.lt_of_lt_of_le hk h.size) (fun e => by have := hr k e.symm; omega)).trans (h.block k hk hn), h.fresh⟩


theorem next40_0 (s : St) (N : Net) (v : Nat) (w : World) (h : LL w s) (hx : Ext w s N) (hv : v < N.n) (hf : s.f0 v ≤ (N.ZA v).length) (hm : (N.ZA v).length ≤ 1048576) (hin : ∀ x ∈ N.ZA v, 0 ≤ x ∧ x < N.n) (hmv : s.mv.length ≤ 1000000) (hn : N.n ≤ 1048576) :
    Calls Try.prog 40 #[.pointer (some ⟨s.lb, 0, none⟩), .int .i64 v, .bool false] w (NextAt0 s v (N.ZA v) w) := by
  have hc := hid (next45_0 s N v w h hx hv hf hm hin hmv hn)
  clear h hx hin
  go_enter Try.func40, Try.ntmps40
  go_wp2_with fail
  refine hc.out.mono ?_
  rintro e w' ⟨p, o, c, h1, h2, h3, h4, h5, h6⟩
  rcases h4 with ⟨hp, rfl⟩ | ⟨hp, hl, rfl⟩
  · have HP := hid (And.intro h1 (And.intro h2 (And.intro h3 (And.intro h5 (And.intro h6 hp)))))
    clear h1 h2 h3 h5 h6 hp
    go_wp2
    go_ret2
    obtain ⟨h1, h2, h3, h5, h6, hp⟩ := HP.out
    exact ⟨p, o, c, h1, h2, h3, Or.inl ⟨hp, rfl⟩, h5, h6⟩
  · have HP := hid (And.intro h1 (And.intro h2 (And.intro h3 (And.intro h5 (And.intro h6 (And.intro hp hl))))))
    clear h1 h2 h3 h5 h6 hp hl
    go_wp2
    go_ret2
    obtain ⟨h1, h2, h3, h5, h6, hp, hl⟩ := HP.out
    exact ⟨p, o, c, h1, h2, h3, Or.inr ⟨hp, hl, rfl⟩, h5, h6⟩

/-- The lists while a walk in direction 0 from v has met F and stands at f. -/
def St.walk0 (s : St) (v f : Nat) (F : List Int) (o4 : Option Addr) (c4 : Nat) (o8 : Option Addr) (c8 : Nat) : St :=
  { s with left := fun i => s.left i || decide ((i : Int) ∈ F), f0 := fun i => if i = v then f else s.f0 i, o4 := o4, c4 := c4, lo := s.lo ++ F, o8 := o8, c8 := c8, mv := if 0 < f then s.mv ++ [(v : Int)] else s.mv }

theorem St.walk0_start (s : St) (v : Nat) (h0 : s.f0 v = 0) : s.walk0 v 0 [] s.o4 s.c4 s.o8 s.c8 = s := by
  have e : (fun i => if i = v then 0 else s.f0 i) = s.f0 := by
    funext i; by_cases h : i = v
    · subst h; simp [h0]
    · simp [h]
  simp [St.walk0, e]

theorem St.walk0_next (s : St) (v f p : Nat) (F : List Int) (o4 : Option Addr) (c4 : Nat) (o8 o : Option Addr) (c8 c : Nat) (hfp : f ≤ p) :
    (s.walk0 v f F o4 c4 o8 c8).next0 v p o c = s.walk0 v p F o4 c4 o c := by
  have e : (fun i => if i = v then p else (s.walk0 v f F o4 c4 o8 c8).f0 i) = fun i => if i = v then p else s.f0 i := by
    funext i; by_cases h : i = v <;> simp [h, St.walk0]
  unfold St.next0
  rw [e]
  unfold St.walk0
  simp only [if_true]
  congr 1
  by_cases h0 : f = 0
  · subst h0; simp
  · rw [if_neg (by omega), if_pos (by omega), if_pos (by omega)]

theorem St.walk0_leave (s : St) (v p x : Nat) (F : List Int) (o4 o : Option Addr) (c4 c : Nat) (o8 : Option Addr) (c8 : Nat) :
    ({ s.walk0 v p F o4 c4 o8 c8 with left := fun i => if i = x then true else (s.walk0 v p F o4 c4 o8 c8).left i, o4 := o, c4 := c, lo := (s.walk0 v p F o4 c4 o8 c8).lo ++ [(x : Int)] } : St) = s.walk0 v p (F ++ [(x : Int)]) o c o8 c8 := by
  have e : (fun i => if i = x then true else (s.walk0 v p F o4 c4 o8 c8).left i) = fun i => s.left i || decide ((i : Int) ∈ F ++ [(x : Int)]) := by
    funext i
    by_cases h : i = x
    · subst h; simp
    · have h' : ¬ (i : Int) = (x : Int) := by omega
      simp [h, h', St.walk0]
  rw [e]
  simp [St.walk0]

/-- What a walk in direction 0 leaves: the nodes met, and true. -/
def Walked0 (s : St) (v : Nat) (F : List Int) (w : World) (e : Ending) (w' : World) : Prop :=
  ∃ oq cq f o4 c4 o8 c8, e = .returned (.tuple #[.slice oq F.length cq, .bool true]) ∧ LL w' (s.walk0 v f F o4 c4 o8 c8) ∧ Moved w w' s (s.walk0 v f F o4 c4 o8 c8) ∧ IntsP (fun b => ¬ (s.walk0 v f F o4 c4 o8 c8).has b) w' oq F

/-- The state of the loop of lawWalk. -/
structure Walk0At (s : St) (N : Net) (v f m : Nat) (F : List Int) (o4 : Option Addr) (c4 : Nat) (o8 : Option Addr) (c8 : Nat) (oq : Option Addr) (cq : Nat) (w wr : World) : Prop where
  ll : LL wr (s.walk0 v f F o4 c4 o8 c8)
  mo : Moved w wr s (s.walk0 v f F o4 c4 o8 c8)
  hF : F = wl (fun x => !s.left x.toNat) (N.ZA v) m
  hm : m ≤ (N.ZA v).length
  hf : f ≤ m
  seq : OwnInts wr oq cq F
  off : ∀ g, oq = some ⟨g, 0, none⟩ → w.heap.size ≤ g ∧ ¬ (s.walk0 v f F o4 c4 o8 c8).has g

/-- next has been asked, and has found a node. -/
theorem Walk0At.found {s : St} {N : Net} {v f m : Nat} {F : List Int} {o4 : Option Addr} {c4 : Nat} {o8 : Option Addr} {c8 : Nat} {oq : Option Addr} {cq : Nat} {w wr : World} (h : Walk0At s N v f m F o4 c4 o8 c8 oq cq w wr)
    (hin : ∀ x ∈ N.ZA v, 0 ≤ x ∧ x < N.n) {p : Nat} (hp : p ≤ (N.ZA v).length)
    (hall : ∀ q, f ≤ q → q < p → (s.left ((N.ZA v).getD q 0).toNat || decide ((((N.ZA v).getD q 0).toNat : Int) ∈ F)) = true)
    (hend : p < (N.ZA v).length → (s.left ((N.ZA v).getD p 0).toNat || decide ((((N.ZA v).getD p 0).toNat : Int) ∈ F)) = false) :
    wl (fun x => !s.left x.toNat) (N.ZA v) p = F ∧ (p < (N.ZA v).length → wl (fun x => !s.left x.toNat) (N.ZA v) (p + 1) = F ++ [(N.ZA v).getD p 0]) := by
  have hcast : ∀ q, q < (N.ZA v).length → ((((N.ZA v).getD q 0).toNat : Int)) = (N.ZA v).getD q 0 := fun q hq => by
    have := hin ((N.ZA v).getD q 0) (by simp [List.getD, hq]); omega
  have hmp : m ≤ p := by
    refine Nat.le_of_not_lt fun hlt => ?_
    have hpl : p < (N.ZA v).length := by have := h.hm; omega
    have he := hend hpl
    rw [Bool.or_eq_false_iff, hcast p hpl] at he
    have : (N.ZA v).getD p 0 ∈ F := by
      rw [h.hF]
      exact (mem_wl _ _ m h.hm).2 ⟨p, hlt, rfl, by show (!s.left _) = true; rw [he.1]; rfl⟩
    have h2 := he.2
    rw [decide_eq_true this] at h2
    cases h2
  have hskip : wl (fun x => !s.left x.toNat) (N.ZA v) p = F := by
    rw [wl_skip _ _ m p hmp hp, ← h.hF]
    intro q h1 h2
    have hq := hall q (by have := h.hf; omega) h2
    rw [Bool.or_eq_true, hcast q (by omega)] at hq
    rcases hq with hq | hq
    · exact Or.inl (by show (!s.left _) = false; rw [hq]; rfl)
    · exact Or.inr (by rw [← h.hF]; exact of_decide_eq_true hq)
  refine ⟨hskip, fun hpl => ?_⟩
  have he := hend hpl
  rw [Bool.or_eq_false_iff, hcast p hpl] at he
  rw [wl_succ _ _ p hpl, hskip, if_pos (by show (!s.left _) = true; rw [he.1]; rfl)]
  unfold addNew
  rw [if_neg (of_decide_eq_false he.2)]

set_option maxHeartbeats 2000000 in
theorem walk29_0 (s : St) (N : Net) (v : Nat) (w : World) (h : LL w s) (hx : Ext w s N) (hlo : s.lo = []) (hmv : s.mv = []) (hf0 : s.f0 v = 0) (hv : v < N.n) (hm : (N.ZA v).length ≤ 1048576) (hin : ∀ x ∈ N.ZA v, 0 ≤ x ∧ x < N.n) (hn : N.n ≤ 1048576) :
    Calls Try.prog 29 #[.pointer (some ⟨s.lb, 0, none⟩), .int .i64 N.n, .int .i64 v, .bool false] w (Walked0 s v (wl (fun x => !s.left x.toNat) (N.ZA v) (N.ZA v).length) w) := by
  have H := hid h
  have HX := hid hx
  have HIN := hid hin
  have HLO := hid hlo
  have HMV := hid hmv
  have HF0 := hid hf0
  clear h hx hin hlo hmv hf0
  go_enter Try.func29, Try.ntmps29
  go_wp2
  go_loopw [10, 11] (fun q i wr => ∃ (f m : Nat) (F : List Int) (o4 : Option Addr) (c4 : Nat) (o8 : Option Addr) (c8 : Nat) (oq : Option Addr) (cq : Nat), i = .int .i64 (F.length : Int) ∧ q = .slice oq F.length cq ∧ Walk0At s N v f m F o4 c4 o8 c8 oq cq w wr)
    (fun _ i _ => N.n + 1 - (intOf i).toNat)
  case atStart =>
    refine ⟨0, 0, [], s.o4, s.c4, s.o8, s.c8, none, 0, rfl, rfl, ?_, ?_, by rw [wl_zero], Nat.zero_le _, Nat.le_refl _, OwnInts.nil _, fun g hg => by cases hg⟩
    · rw [St.walk0_start s v HF0.out]; exact H.out
    · rw [St.walk0_start s v HF0.out]; exact Moved.refl w s
  case round =>
    obtain ⟨f, m, F, o4, c4, o8, c8, oq, cq, rfl, rfl, hst⟩ := hrel
    have hFn : F.length ≤ N.n := by
      refine pigeon N.n F (by rw [hst.hF]; exact wl_nodup _ _ _) fun x hxF => ?_
      rw [hst.hF] at hxF
      obtain ⟨q, hq, e, _⟩ := (mem_wl _ _ m hst.hm).1 hxF
      have hml := hst.hm
      exact HIN.out x (by rw [← e]; simp [List.getD, show q < (N.ZA v).length by omega])
    have hext : Ext wr (s.walk0 v f F o4 c4 o8 c8) N := HX.out.moved hst.mo rfl rfl rfl
    have hmvl : (s.walk0 v f F o4 c4 o8 c8).mv.length ≤ 1000000 := by
      have e : (s.walk0 v f F o4 c4 o8 c8).mv = if 0 < f then [(v : Int)] else [] := by simp [St.walk0, HMV.out]
      rw [e]; split <;> simp
    have hlol : (s.walk0 v f F o4 c4 o8 c8).lo = F := by simp [St.walk0, HLO.out]
    have hfv : (s.walk0 v f F o4 c4 o8 c8).f0 v = f := by simp [St.walk0]
    have hc := hid (next40_0 (s.walk0 v f F o4 c4 o8 c8) N v wr hst.ll hext hv (by rw [hfv]; exact Nat.le_trans hst.hf hst.hm) hm HIN.out hmvl hn)
    have HS := hid hst
    have HFV := hid hfv
    have HLL := hid hlol
    clear hst hext hmvl hfv hlol
    go_wp2_with fail
    refine hc.out.mono ?_
    rintro e w1 ⟨p, o, c, h1, h2, h3, h4, h5, h6⟩
    rw [HFV.out] at h1 h3
    rw [St.walk0_next s v f p F o4 c4 o8 o c8 c h1] at h5 h6
    have hsq : OwnInts w1 oq cq F := HS.out.seq.keep fun g hg hl => h6.block g hl (HS.out.off g hg).2
    have hso : ∀ g, oq = some ⟨g, 0, none⟩ → w.heap.size ≤ g ∧ ¬ (s.walk0 v p F o4 c4 o c).has g := fun g hg => ⟨(HS.out.off g hg).1, h6.off (by
      rcases HS.out.seq.form with ⟨e, _, _⟩ | ⟨g', e, hl, _⟩
      · rw [e] at hg; cases hg
      · rw [e] at hg; simp at hg; omega) (HS.out.off g hg).2⟩
    rcases h4 with ⟨hp, rfl⟩ | ⟨hp, hl, rfl⟩
    · have hw := HS.out.found HIN.out h2 h3 (fun hlt => by omega)
      rw [hp] at hw
      have HW := hid hw.1
      have H5 := hid h5
      have H6 := hid (HS.out.mo.trans h6)
      have HSQ := hid hsq
      have HSO := hid hso
      clear h1 h2 h3 h5 h6 hp hw hsq hso hc
      go_wp2
      go_ret2
      rw [HW.out]
      refine ⟨oq, cq, p, o4, c4, o, c, rfl, H5.out, H6.out, HSQ.out.ints.keep (fun _ _ _ => rfl) (fun g hg _ => (HSO.out g hg).2)⟩
    · have hw := (HS.out.found HIN.out h2 h3 (fun _ => hl)).2 hp
      obtain ⟨x, hxx⟩ : ∃ x : Nat, (x : Int) = (N.ZA v).getD p 0 := by
        have := HIN.out ((N.ZA v).getD p 0) (by simp [List.getD, hp])
        exact ⟨((N.ZA v).getD p 0).toNat, by omega⟩
      have hxn : x < N.n := by
        have := HIN.out ((N.ZA v).getD p 0) (by simp [List.getD, hp]); omega
      have hxt : ((N.ZA v).getD p 0).toNat = x := by omega
      rw [← hxx] at hw ⊢
      rw [hxt] at hl
      have hlol : (s.walk0 v p F o4 c4 o c).lo = F := by simp [St.walk0, HLO.out]
      have hc2 := hid (leaveOut41 (s.walk0 v p F o4 c4 o c) x w1 h5 (by show x < s.n; rw [HX.out.n]; exact hxn) hl (by rw [hlol]; omega))
      have HW := hid hw
      have H6 := hid (HS.out.mo.trans h6)
      have HSQ := hid hsq
      have HSO := hid hso
      have HP := hid hp
      clear h1 h2 h3 h5 h6 hp hw hsq hso hc hl hxx hxt hlol
      go_wp2_with fail
      refine hc2.out.mono ?_
      rintro e w2 ⟨rfl, o', c', h7, h8⟩
      rw [St.walk0_leave s v p x F o4 o' c4 c' o c] at h7 h8
      have hsq2 : OwnInts w2 oq cq F := HSQ.out.keep fun g hg hl => h8.block g hl (HSO.out g hg).2
      have hso2 : ∀ g, oq = some ⟨g, 0, none⟩ → w.heap.size ≤ g ∧ ¬ (s.walk0 v p (F ++ [(x : Int)]) o' c' o c).has g := fun g hg => ⟨(HSO.out g hg).1, h8.off (by
        rcases HSQ.out.form with ⟨e, _, _⟩ | ⟨g', e, hl, _⟩
        · rw [e] at hg; cases hg
        · rw [e] at hg; simp at hg; omega) (HSO.out g hg).2⟩
      have H7 := hid h7
      have H8 := hid (H6.out.trans h8)
      have HSO2 := hid hso2
      clear h7 h8 hso2 hc2
      go_wp2_with (at_builtin; refine wp_append1 _ rfl _ _ rfl oq cq F x rfl rfl rfl hsq2 (by omega) ?_)
      intro g c9 w3 ho3 hg3 hn3
      have K : Walk0At s N v p (p + 1) (F ++ [(x : Int)]) o' c' o c (some ⟨g, 0, none⟩) c9 w w3 := by
        have hrow : ∀ k, oq.map Addr.block = some k → oq = some ⟨k, 0, none⟩ := fun k hk => by
          rcases hsq2.form with ⟨e, _, _⟩ | ⟨g', e, _, _⟩
          · rw [e] at hk; simp at hk
          · rw [e] at hk; simp at hk; rw [e, hk]
        refine ⟨H7.out.keep fun k hk hl => hg3.block k hl fun e => ?_, H8.out.grown hg3 fun k hk => (HSO2.out k (hrow k hk)).1, HW.out.symm, HP.out, by omega, ho3, fun g' hg' => ?_⟩
        · exact (HSO2.out k (hrow k e.symm)).2 hk
        · simp at hg'
          subst hg'
          rcases hn3 with hn3 | hn3
          · exact HSO2.out g hn3
          · have := H8.out.size
            exact ⟨by omega, fun hc => by have := H7.out.has_lt hc; omega⟩
      have HK := hid K
      clear K ho3 hg3 hn3 hsq2
      go_wp2
      go_roundw
      case rel => exact ⟨p, p + 1, F ++ [(x : Int)], o', c', o, c, some ⟨g, 0, none⟩, c9, by simp, by simp, HK.out⟩
      case measure => simp [intOf]; omega

end Go.Proofs.Qxb6617182a
