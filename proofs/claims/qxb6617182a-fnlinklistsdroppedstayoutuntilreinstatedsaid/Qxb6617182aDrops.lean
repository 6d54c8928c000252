import Derived.Test.Qxb6617182aNeigh
namespace Go.Proofs.Qxb6617182a
open Go.RowKit Go.Deep

/-- It returns a bool; where that is true, p holds; nothing old has turned. -/
def RetBB (w : World) (p : Prop) (e : Ending) (w' : World) : Prop := RetB e p ∧ Below w.heap.size w w'

set_option maxHeartbeats 1000000 in
theorem dropsOK33 (o : Option Addr) (c n : Nat) (ds : List Int) (w : World) (h : IntsAt w o ds) (hn : n ≤ 1048576) (hm : ds.length ≤ maxLen) :
    Calls Try.prog 33 #[.slice o ds.length c, .int .i64 n] w (RetBB w (∀ x ∈ ds, 0 ≤ x ∧ x < n)) := by
  unfold maxLen at hm
  have hmk := run_make_row' (P := Try.prog) 38 4 (.bool false) 1 Try.underlying38 Try.info4 rfl .i64 .i64 n (by omega) (by omega)
  have H := hid h
  clear h
  go_enter Try.func33, Try.ntmps33
  go_wp2
  clear hmk
  go_loopw [6] (fun i wr => ∃ (k : Nat) (f : Nat → Bool), k ≤ ds.length ∧ i = .int .i64 k ∧ Below w.heap.size w wr ∧ wr.rowIs w.heap.size 4 n (fun i => .bool (f i)) ∧ ∀ x ∈ ds.take k, 0 ≤ x ∧ x < n) (fun i _ => ds.length - (intOf i).toNat)
  case atStart => exact ⟨0, fun _ => false, Nat.zero_le _, rfl, (Below.refl _ _).alloc (Nat.le_refl _) _, World.rowIs_made w (.bool false) n 4, by simp⟩
  case round =>
    obtain ⟨k, f, hk, rfl, hb, hr, hin⟩ := hrel
    have HB := hid hb
    have HR := hid hr
    have HI := hid hin
    clear hb hr hin
    by_cases hlt : k < ds.length
    · rcases H.out with h0 | ⟨b, off, ho, hc⟩
      · simp [h0] at hlt
      obtain ⟨d, hd⟩ : ∃ d, d = ds.getD k 0 := ⟨_, rfl⟩
      have ce : wr.cell? ⟨b, off + k, none⟩ = some (.int .i64 d) := by rw [hd]; exact (HB.out.cell (World.block_lt_of_cell? w _ (hc k hlt))).trans (hc k hlt)
      have HD := hid hd
      subst ho
      clear hc hd
      by_cases hd0 : d < 0
      · go_wp2
        go_ret
        exact ⟨RetB.no _, HB.out⟩
      by_cases hd1 : (n : Int) ≤ d
      · go_wp2
        go_ret
        exact ⟨RetB.no _, HB.out⟩
      obtain ⟨dn, rfl⟩ : ∃ dn : Nat, d = (dn : Int) := ⟨d.toNat, by omega⟩
      have hdn : dn < n := by omega
      have hdI : (dn : Int) < (n : Int) := by omega
      have cs := HR.out.cell hdn
      have fs := HR.out.frozen dn
      clear hd0 hd1
      cases hf : f dn with
      | true =>
        rw [hf] at cs
        clear hf
        go_wp2
        go_ret
        exact ⟨RetB.no _, HB.out⟩
      | false =>
        rw [hf] at cs
        clear hf
        go_wp2
        go_roundw
        case rel =>
          refine ⟨k + 1, fun i => if i = dn then true else f i, by omega, by go_num, HB.out.setCell (Nat.le_refl _) _, (HR.out.set dn (.bool true)).congr fun i _ => by by_cases e : i = dn <;> simp [e], fun x hx => ?_⟩
          rw [take_snoc ds k hlt, List.mem_append] at hx
          rcases hx with hx | hx
          · exact HI.out x hx
          · simp only [List.mem_singleton] at hx
            rw [hx, ← HD.out]; omega
        case measure => simp [intOf]; omega
    · go_wp2
      go_ret
      refine ⟨RetB.mk _ fun _ => ?_, HB.out⟩
      have := HI.out
      rwa [List.take_of_length_le (by omega)] at this

/-- The state of the second loop of lawWithout: the row of the dropped is block B. -/
theorem FwdAt.keepF {B n : Nat} {F : List Int} {w wr w1 : World} {o : Option Addr} {c g c' : Nat} {x : Int} (hb : Below B w wr) (hs : B < wr.heap.size) (ho : OwnInts wr o c F) (hoff : ∀ g, o = some ⟨g, 0, none⟩ → B < g)
    (h1 : OwnInts w1 (some ⟨g, 0, none⟩) c' (F ++ [x])) (hg : wr.grownBy w1 (o.map Addr.block)) (hn : o = some ⟨g, 0, none⟩ ∨ wr.heap.size < g) {f : Nat → Value} {t : TypeId} (hr : wr.rowIs B t n f) :
    Below B w w1 ∧ B < w1.heap.size ∧ w1.rowIs B t n f ∧ OwnInts w1 (some ⟨g, 0, none⟩) c' (F ++ [x]) ∧ ∀ g', (some ⟨g, 0, none⟩ : Option Addr) = some ⟨g', 0, none⟩ → B < g' := by
  have hrow : ∀ k, o.map Addr.block = some k → o = some ⟨k, 0, none⟩ := fun k hk => by
    rcases ho.form with ⟨e, _, _⟩ | ⟨g0, e, _, _⟩
    · rw [e] at hk; simp at hk
    · rw [e] at hk; simp at hk; rw [e, hk]
  refine ⟨hb.grown hg (by omega) fun k hk => by have := hoff k (hrow k hk); omega, by have := hg.size; omega, hr.of_block (hg.block B hs fun e => by have := hoff B (hrow B e.symm); omega), h1, fun g' hg' => ?_⟩
  simp at hg'
  subst hg'
  rcases hn with hn | hn
  · exact hoff g hn
  · omega

set_option maxHeartbeats 1000000 in
theorem without35 (ol od : Option Addr) (cl cd n : Nat) (zs ds : List Int) (w : World) (hz : IntsAt w ol zs) (hd : IntsAt w od ds) (hn : n ≤ 1048576) (hzl : zs.length ≤ 1048576) (hdl : ds.length ≤ 1048576) (hzi : ∀ x ∈ zs, 0 ≤ x ∧ x < n) (hdi : ∀ x ∈ ds, 0 ≤ x ∧ x < n) :
    Calls Try.prog 35 #[.slice ol zs.length cl, .slice od ds.length cd, .int .i64 n] w (GotInts (zs.filter fun x => !decide (x ∈ ds)) w) := by
  have hmk := run_make_row' (P := Try.prog) 38 4 (.bool false) 1 Try.underlying38 Try.info4 rfl .i64 .i64 n (by omega) (by omega)
  have HZ := hid hz
  have HDD := hid hd
  have HZI := hid hzi
  have HDI := hid hdi
  clear hz hd hzi hdi
  go_enter Try.func35, Try.ntmps35
  go_wp2
  clear hmk
  go_loopw [8] (fun i wr => ∃ (k : Nat), k ≤ ds.length ∧ i = .int .i64 k ∧ Below w.heap.size w wr ∧ w.heap.size < wr.heap.size ∧ wr.rowIs w.heap.size 4 n (fun i => .bool (decide ((i : Int) ∈ ds.take k)))) (fun i _ => ds.length - (intOf i).toNat)
  case atStart => exact ⟨0, Nat.zero_le _, rfl, (Below.refl _ _).alloc (Nat.le_refl _) _, by simp, (World.rowIs_made w (.bool false) n 4).congr fun i _ => by simp⟩
  case round =>
    obtain ⟨k, hk, rfl, hb, hs, hr⟩ := hrel
    have HB := hid hb
    have HR := hid hr
    clear hb hr
    by_cases hlt : k < ds.length
    · rcases HDD.out with h0 | ⟨b, off, ho, hc⟩
      · simp [h0] at hlt
      obtain ⟨d, hd⟩ : ∃ d : Nat, (d : Int) = ds.getD k 0 := by
        have := HDI.out (ds.getD k 0) (by simp [List.getD, hlt])
        exact ⟨(ds.getD k 0).toNat, by omega⟩
      have hdn : d < n := by
        have := HDI.out (ds.getD k 0) (by simp [List.getD, hlt]); omega
      have hdI : (d : Int) < (n : Int) := by omega
      have ce : wr.cell? ⟨b, off + k, none⟩ = some (.int .i64 (d : Int)) := by rw [hd]; exact (HB.out.cell (World.block_lt_of_cell? w _ (hc k hlt))).trans (hc k hlt)
      have cs := HR.out.cell hdn
      have fs := HR.out.frozen d
      have HD := hid hd
      subst ho
      clear hc hd
      go_wp2
      go_roundw
      case rel =>
        refine ⟨k + 1, by omega, by go_num, HB.out.setCell (Nat.le_refl _) _, by simpa using hs, (HR.out.set d (.bool true)).congr fun i _ => ?_⟩
        rw [take_snoc ds k hlt, ← HD.out]
        by_cases e : i = d
        · subst e; simp
        · have e' : ¬ (i : Int) = (d : Int) := by omega
          simp [e, e']
      case measure => simp [intOf]; omega
    · have hke : ds.take k = ds := List.take_of_length_le (by omega)
      rw [hke] at HR
      clear hke
      rename World => wo
      go_wp2
      go_loopw [9, 10] (fun xo i wr => ∃ (j : Nat) (oo : Option Addr) (cc : Nat) (F : List Int), j ≤ zs.length ∧ i = .int .i64 j ∧ xo = .slice oo F.length cc ∧ F = (zs.take j).filter (fun x => !decide (x ∈ ds)) ∧
          Below w.heap.size w wr ∧ w.heap.size < wr.heap.size ∧ wr.rowIs w.heap.size 4 n (fun i => .bool (decide ((i : Int) ∈ ds))) ∧ OwnInts wr oo cc F ∧ ∀ g, oo = some ⟨g, 0, none⟩ → w.heap.size < g) (fun _ i _ => zs.length - (intOf i).toNat)
      case atStart => exact ⟨0, none, 0, [], Nat.zero_le _, rfl, rfl, by simp, HB.out, hs, HR.out, OwnInts.nil _, fun g hg => by cases hg⟩
      case round =>
        obtain ⟨j, oo, cc, F, hj, rfl, rfl, hF, hb, hs2, hr, how, hoff⟩ := hrel
        have hFl : F.length ≤ 1048576 := by
          rw [hF]
          refine Nat.le_trans (List.length_filter_le _ _) ?_
          rw [List.length_take]; omega
        have HF := hid hF
        have HB2 := hid hb
        have HR2 := hid hr
        have HOF := hid hoff
        clear hF hb hr hoff
        by_cases hlt2 : j < zs.length
        · rcases HZ.out with h0 | ⟨b, off, ho, hc⟩
          · simp [h0] at hlt2
          obtain ⟨x, hx⟩ : ∃ x : Nat, (x : Int) = zs.getD j 0 := by
            have := HZI.out (zs.getD j 0) (by simp [List.getD, hlt2])
            exact ⟨(zs.getD j 0).toNat, by omega⟩
          have hxn : x < n := by
            have := HZI.out (zs.getD j 0) (by simp [List.getD, hlt2]); omega
          have hxI : (x : Int) < (n : Int) := by omega
          have ce : wr.cell? ⟨b, off + j, none⟩ = some (.int .i64 (x : Int)) := by rw [hx]; exact (HB2.out.cell (World.block_lt_of_cell? w _ (hc j hlt2))).trans (hc j hlt2)
          have cs := HR2.out.cell hxn
          have hft : (zs.take (j + 1)).filter (fun x => !decide (x ∈ ds)) = if (x : Int) ∈ ds then F else F ++ [(x : Int)] := by
            rw [take_snoc zs j hlt2, List.filter_append, ← HF.out, ← hx]
            by_cases e : (x : Int) ∈ ds
            · simp [e]
            · simp [e]
          have HFT := hid hft
          subst ho
          clear hc hx hft
          by_cases hmem : (x : Int) ∈ ds
          · have cs' : wr.cell? ⟨w.heap.size, x, none⟩ = some (.bool true) := by rw [cs]; simp [hmem]
            have HOW := hid how
            have HME := hid hmem
            clear cs how hmem
            go_wp2
            go_roundw
            case rel => exact ⟨j + 1, oo, cc, F, by omega, by go_num, rfl, by rw [HFT.out, if_pos HME.out], HB2.out, hs2, HR2.out, HOW.out, HOF.out⟩
            case measure => simp [intOf]; omega
          · have cs' : wr.cell? ⟨w.heap.size, x, none⟩ = some (.bool false) := by rw [cs]; simp [hmem]
            have HOW := hid how
            have HME := hid hmem
            clear cs hmem
            go_wp2_with (at_builtin; refine wp_append1 _ rfl _ _ rfl oo cc F x rfl rfl rfl how (by omega) ?_)
            intro g c' w1 ho1 hg1 hn1
            have KK := hid (FwdAt.keepF HB2.out hs2 HOW.out HOF.out ho1 hg1 hn1 HR2.out)
            clear ho1 hg1 hn1 how
            go_wp2
            go_roundw
            case rel =>
              obtain ⟨k1, k2, k3, k4, k5⟩ := KK.out
              exact ⟨j + 1, some ⟨g, 0, none⟩, c', F ++ [(x : Int)], by omega, by go_num, by simp, by rw [HFT.out, if_neg HME.out], k1, k2, k3, k4, k5⟩
            case measure => simp [intOf]; omega
        · have HOW := hid how
          clear how
          have hfin : F = zs.filter (fun x => !decide (x ∈ ds)) := by rw [HF.out, List.take_of_length_le (by omega)]
          have HFIN := hid hfin
          clear hfin
          go_wp2
          go_ret
          rw [← HFIN.out]
          exact ⟨oo, cc, rfl, HB2.out, HOW.out.ints.keep (fun _ _ _ => rfl) (fun g hg _ => by have := HOF.out g hg; omega)⟩
end Go.Proofs.Qxb6617182a
