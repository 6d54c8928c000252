/-
  SEAT b6617182a: the steps of the laws, each in one form for both directions.
-/
import Derived.Test.Qxb6617182aNew
import Derived.Test.Qxb6617182aNeigh
namespace Go.Proofs.Qxb6617182a
open Go.RowKit Go.Deep

theorem new11 (oA : Option Addr) (n cA : Nat) (A : Nat → Option Addr) (C : Nat → Nat) (Z : Nat → List Int) (oP : Option Addr) (nP cP : Nat) (w : World)
    (h : MatAt w oA n A C Z) (hn : n ≤ 131072) (hs : sumTo (fun r => (Z r).length) n ≤ 131072) (hin : ∀ r, r < n → ∀ x ∈ Z r, 0 ≤ x ∧ x < n) :
    Calls Try.prog 11 #[.slice oA n cA, .slice oP nP cP] w (MadeLL oA n cA A C Z (.slice oP nP cP) w) := by
  have hc := hid (new38 oA n cA A C Z oP nP cP w h hn hs hin)
  clear h hs hin
  go_enter Try.func11, Try.ntmps11
  go_wp2_with fail
  refine hc.out.mono ?_
  rintro e w' ⟨lb, gl, g0, g1, vg, ga, AGs, CGs, rfl, hp⟩
  have HP := hid hp
  clear hp
  go_wp2
  go_ret
  exact ⟨lb, gl, g0, g1, vg, ga, AGs, CGs, rfl, HP.out⟩

theorem isNil13 (a : Addr) (w : World) : Calls Try.prog 13 #[.pointer (some a)] w fun e w' => e = .returned (.bool false) ∧ w' = w := by
  go_enter Try.func13, Try.ntmps13
  go_wp2
  go_ret
  exact ⟨rfl, rfl⟩

theorem restore31 (s : St) (w : World) (h : LL w s) (hlo : ∀ x ∈ s.lo, 0 ≤ x ∧ x < s.n) (hmv : ∀ x ∈ s.mv, 0 ≤ x ∧ x < s.n) (hl4 : s.lo.length ≤ 10000000) (hl8 : s.mv.length ≤ 10000000) :
    Calls Try.prog 31 #[.pointer (some ⟨s.lb, 0, none⟩)] w (Restored s w) := by
  have hc := hid (restore42 s w h hlo hmv hl4 hl8)
  clear h hlo hmv
  go_enter Try.func31, Try.ntmps31
  go_wp2_with fail
  refine hc.out.mono ?_
  rintro e w' ⟨rfl, hp⟩
  have HP := hid hp
  clear hp
  go_wp2
  go_end0
  exact ⟨rfl, HP.out⟩

/-- The list that next follows. -/
def Net.list (N : Net) (b : Bool) (v : Nat) : List Int := if b then N.ZG v else N.ZA v

/-- No node is left out but by dropping, none is moved. -/
structure Clean (s : St) : Prop where
  lo : s.lo = []
  mv : s.mv = []
  f0 : s.f0 = fun _ => 0
  f1 : s.f1 = fun _ => 0

/-- s with the arrays of leftOut and moved replaced. -/
def St.with48 (s : St) (o4 : Option Addr) (c4 : Nat) (o8 : Option Addr) (c8 : Nat) : St := { s with o4 := o4, c4 := c4, o8 := o8, c8 := c8 }

theorem Clean.with48 {s : St} (h : Clean s) (o4 : Option Addr) (c4 : Nat) (o8 : Option Addr) (c8 : Nat) : Clean (s.with48 o4 c4 o8 c8) := ⟨h.lo, h.mv, h.f0, h.f1⟩

/-- The nodes that a walk meets. -/
def Net.walk (N : Net) (s : St) (b : Bool) (v : Nat) : List Int := firsts ((N.list b v).filter fun x => !s.left x.toNat)

/-- What a walk leaves, and that restore can take it from there. -/
def Walked (s : St) (F : List Int) (w : World) (e : Ending) (w' : World) : Prop :=
  ∃ oq cq s', e = .returned (.tuple #[.slice oq F.length cq, .bool true]) ∧ LL w' s' ∧ Moved w w' s s' ∧ IntsP (fun b => ¬ s'.has b) w' oq F ∧
    s'.lb = s.lb ∧ s'.n = s.n ∧ (∀ x ∈ s'.lo, 0 ≤ x ∧ x < s.n) ∧ (∀ x ∈ s'.mv, 0 ≤ x ∧ x < s.n) ∧ s'.lo.length ≤ 10000000 ∧ s'.mv.length ≤ 10000000 ∧ ∃ o4 c4 o8 c8, s'.restored = s.with48 o4 c4 o8 c8

theorem wl_all (ok : Int → Bool) (zs : List Int) : wl ok zs zs.length = firsts (zs.filter ok) := by unfold wl; rw [List.take_length]

theorem left_restored (s : St) (F : List Int) (hF : ∀ x ∈ F, 0 ≤ x ∧ s.left x.toNat = false) : (fun i : Nat => if (i : Int) ∈ F then false else (s.left i || decide ((i : Int) ∈ F))) = s.left := by
  funext i
  by_cases h : (i : Int) ∈ F
  · have := (hF _ h).2
    simp at this
    simp [h, this]
  · simp [h]

theorem f_restored (v f : Nat) : (fun i : Nat => if (i : Int) ∈ (if 0 < f then [(v : Int)] else []) then 0 else if i = v then f else 0) = fun _ => 0 := by
  funext i
  by_cases h : 0 < f
  · by_cases e : i = v
    · subst e; simp [h]
    · have e' : ¬ (i : Int) = (v : Int) := by omega
      simp [e]
  · have : f = 0 := by omega
    subst this
    simp

theorem walk0_restored (s : St) (hc : Clean s) (v f : Nat) (F : List Int) (o4 : Option Addr) (c4 : Nat) (o8 : Option Addr) (c8 : Nat) (hF : ∀ x ∈ F, 0 ≤ x ∧ s.left x.toNat = false) :
    (s.walk0 v f F o4 c4 o8 c8).restored = s.with48 o4 c4 o8 c8 := by
  have e1 := left_restored s F hF
  have e2 := f_restored v f
  simp only [St.restored, St.walk0, St.with48, hc.lo, hc.mv, hc.f0, hc.f1, List.nil_append]
  rw [e1, e2]
  congr 1
  funext i
  simp

theorem walk1_restored (s : St) (hc : Clean s) (v f : Nat) (F : List Int) (o4 : Option Addr) (c4 : Nat) (o8 : Option Addr) (c8 : Nat) (hF : ∀ x ∈ F, 0 ≤ x ∧ s.left x.toNat = false) :
    (s.walk1 v f F o4 c4 o8 c8).restored = s.with48 o4 c4 o8 c8 := by
  have e1 := left_restored s F hF
  have e2 := f_restored v f
  simp only [St.restored, St.walk1, St.with48, hc.lo, hc.mv, hc.f0, hc.f1, List.nil_append]
  rw [e1, e2]
  congr 1
  funext i
  simp

theorem mem_firsts {l : List Int} {y : Int} : y ∈ firsts l ↔ y ∈ l := by
  have h := mem_wl (fun _ => true) l l.length (Nat.le_refl _) (y := y)
  have e : wl (fun _ => true) l l.length = firsts l := by rw [wl_all, List.filter_eq_self.2 (fun _ _ => rfl)]
  rw [e] at h
  rw [h]
  constructor
  · rintro ⟨q, h1, h2, _⟩
    rw [← h2]; simp [List.getD, h1]
  · intro hy
    obtain ⟨q, h1, h2⟩ := List.getElem_of_mem hy
    exact ⟨q, h1, by simp [List.getD, h1, h2], rfl⟩

theorem walk_any (s : St) (N : Net) (b : Bool) (v : Nat) (w : World) (h : LL w s) (hx : Ext w s N) (hc : Clean s) (hv : v < N.n) (hm : (N.list b v).length ≤ 1048576) (hin : ∀ x ∈ N.list b v, 0 ≤ x ∧ x < N.n) (hn : N.n ≤ 1048576) :
    Calls Try.prog 29 #[.pointer (some ⟨s.lb, 0, none⟩), .int .i64 N.n, .int .i64 v, .bool b] w (Walked s (N.walk s b v) w) := by
  have hF : ∀ x ∈ N.walk s b v, x ∈ N.list b v ∧ s.left x.toNat = false := fun x hx => by
    have := mem_firsts.1 hx
    rw [List.mem_filter] at this
    exact ⟨this.1, by simpa using this.2⟩
  have hF2 : ∀ x ∈ N.walk s b v, 0 ≤ x ∧ x < s.n := fun x hxx => by rw [hx.n]; exact hin x (hF x hxx).1
  have hlen : (N.walk s b v).length ≤ 1048576 := by
    refine Nat.le_trans (firsts_len _) (Nat.le_trans (List.length_filter_le _ _) hm)
  have hmv : ∀ f : Nat, ∀ x ∈ (if 0 < f then s.mv ++ [(v : Int)] else s.mv), 0 ≤ x ∧ x < s.n := fun f x hxx => by
    rw [hc.mv] at hxx
    split at hxx
    · simp at hxx; subst hxx; rw [hx.n]; omega
    · simp at hxx
  have hmvl : ∀ f : Nat, (if 0 < f then s.mv ++ [(v : Int)] else s.mv).length ≤ 10000000 := fun f => by
    rw [hc.mv]
    split
    · simp
    · exact Nat.zero_le _
  cases b with
  | false =>
    refine (walk29_0 s N v w h hx hc.lo hc.mv (by rw [hc.f0]) hv hm hin hn).mono ?_
    rintro e w' ⟨oq, cq, f, o4, c4, o8, c8, rfl, h1, h2, h3⟩
    have e : wl (fun x => !s.left x.toNat) (N.ZA v) (N.ZA v).length = N.walk s false v := wl_all _ _
    rw [e] at h1 h2 h3 ⊢
    exact ⟨oq, cq, _, rfl, h1, h2, h3, rfl, rfl, fun x hxx => hF2 x (by simpa [St.walk0, hc.lo] using hxx), hmv f, by simp only [St.walk0, hc.lo, List.nil_append]; omega, hmvl f, o4, c4, o8, c8, walk0_restored s hc v f _ o4 c4 o8 c8 fun x hxx => ⟨(hF2 x hxx).1, (hF x hxx).2⟩⟩
  | true =>
    refine (walk29_1 s N v w h hx hc.lo hc.mv (by rw [hc.f1]) hv hm hin hn).mono ?_
    rintro e w' ⟨oq, cq, f, o4, c4, o8, c8, rfl, h1, h2, h3⟩
    have e : wl (fun x => !s.left x.toNat) (N.ZG v) (N.ZG v).length = N.walk s true v := wl_all _ _
    rw [e] at h1 h2 h3 ⊢
    exact ⟨oq, cq, _, rfl, h1, h2, h3, rfl, rfl, fun x hxx => hF2 x (by simpa [St.walk1, hc.lo] using hxx), hmv f, by simp only [St.walk1, hc.lo, List.nil_append]; omega, hmvl f, o4, c4, o8, c8, walk1_restored s hc v f _ o4 c4 o8 c8 fun x hxx => ⟨(hF2 x hxx).1, (hF x hxx).2⟩⟩

/-- The neighbours by the law's own words. -/
def nb (b : Bool) (Z : Nat → List Int) (n v : Nat) : List Int := if b then backTo Z v n else firsts (Z v)

theorem neigh_any (o : Option Addr) (n c : Nat) (A : Nat → Option Addr) (C : Nat → Nat) (Z : Nat → List Int) (v : Nat) (b : Bool) (w : World) (h : MatAt w o n A C Z) (hn : n ≤ 1048576) (hv : v < n) (hm : ∀ r, r < n → (Z r).length ≤ 1048576)
    (hin : ∀ r, r < n → ∀ x ∈ Z r, 0 ≤ x ∧ x < n) :
    Calls Try.prog 28 #[.slice o n c, .int .i64 v, .bool b] w (GotInts (nb b Z n v) w) := by
  cases b with
  | false => exact neigh_fwd o n c A C Z v w h hn hv (hm v hv) (hin v hv)
  | true => exact neigh_back o n c A C Z v w h hn hm

end Go.Proofs.Qxb6617182a
