import Derived.Test.Qxb6617182aNewParts
namespace Go.Proofs.Qxb6617182a
open Go.RowKit Go.Deep

set_option maxHeartbeats 4000000 in
set_option maxRecDepth 20000 in
theorem new38 (oA : Option Addr) (n cA : Nat) (A : Nat → Option Addr) (C : Nat → Nat) (Z : Nat → List Int) (oP : Option Addr) (nP cP : Nat) (w : World)
    (h : MatAt w oA n A C Z) (hn : n ≤ 131072) (hs : sumTo (fun r => (Z r).length) n ≤ 131072) (hin : ∀ r, r < n → ∀ x ∈ Z r, 0 ≤ x ∧ x < n) :
    Calls Try.prog 38 #[.slice oA n cA, .slice oP nP cP] w (MadeLL oA n cA A C Z (.slice oP nP cP) w) := by
  have HH := hid h
  have HI := hid hin
  have HSum := hid hs
  clear h hin hs
  go_enter Try.func38, Try.ntmps38
  go_upto_region 1 with fail
  go_cut [5] (fun l wc => ∃ ga gl, l = .pointer (some ⟨w.heap.size + 2, 0, none⟩) ∧ New0 w wc n (.slice oA n cA) (.slice oP nP cP) ga gl)
  case first =>
    have mk22 := run_make_row' (P := Try.prog) 22 40 (.slice none 0 0) 24 Try.underlying22 Try.info40 rfl .i64 .i64 n (by omega) (by omega)
    have mk38 := run_make_row' (P := Try.prog) 38 4 (.bool false) 1 Try.underlying38 Try.info4 rfl .i64 .i64 n (by omega) (by omega)
    go_region
    all_goals
      clear mk22 mk38
      go_wp2_with fail
      go_meet
    · exact ⟨_, _, rfl, (new0_ab w n (.slice oA n cA) (.slice oP nP cP)).drew⟩
    · exact ⟨_, _, rfl, (new0_ba w n (.slice oA n cA) (.slice oP nP cP)).drew⟩
  case rest =>
    obtain ⟨ga, gl, rfl, hnew⟩ := hcut
    have H0 := hid hnew
    have mk40 := run_make_row' (P := Try.prog) 40 3 (.int .i64 0) 8 Try.underlying40 Try.info3 rfl .i64 .i64 n (by omega) (by omega)
    clear hnew
    go_wp2
    clear mk40
    obtain ⟨w1, hw1⟩ : ∃ x, x = wc.alloc (.cells (madeCells #[.int .i64 0] n) 3) := ⟨_, rfl⟩
    rw [← hw1]
    have hsz1 : w1.heap.size = w.heap.size + 4 := by rw [hw1, nblk_alloc, H0.out.size]
    have hr1 : w1.rowIs wc.heap.size 3 n (fun _ => .int .i64 0) := by rw [hw1]; exact World.rowIs_made wc (.int .i64 0) n 3
    have hb1 : Below w.heap.size w w1 := by rw [hw1]; exact H0.out.below.alloc (by rw [H0.out.size]; omega) _
    have HW1 := hid hw1
    have HSZ := hid hsz1
    have HR1 := hid hr1
    have HB1 := hid hb1
    clear hw1 hsz1 hr1 hb1
    go_loopw [7, 35] (fun t i wr => ∃ k : Nat, k ≤ n ∧ i = .int .i64 k ∧ t = .int .i64 ((flat Z k).length : Nat) ∧ Only (fun b => b = wc.heap.size) w1 wr ∧ wr.rowIs wc.heap.size 3 n (fun x => .int .i64 ((flat Z k).count (x : Int) : Nat)))
      (fun _ i _ => n - (intOf i).toNat)
    case atStart => exact ⟨0, Nat.zero_le _, rfl, rfl, Only.refl _ _, HR1.out.congr fun x _ => by simp [flat]⟩
    case round =>
      obtain ⟨k, hk, rfl, rfl, hon, hrow⟩ := hrel
      rename World => wo
      have hbw : Below w.heap.size w wo := hon.below HB1.out (fun b hb => by rw [hb, H0.out.size]; omega) (by rw [HSZ.out]; omega)
      by_cases hlt : k < n
      · obtain ⟨h1, h2⟩ := HH.out
        rcases h1 with h1 | ⟨bA, offA, ho, hc⟩
        · omega
        subst ho
        have hck : w.cell? ⟨bA, offA + k, none⟩ = some (.slice (A k) (Z k).length (C k)) := hc k hlt
        have hcell : wo.cell? ⟨bA, offA + k, none⟩ = some (.slice (A k) (Z k).length (C k)) := (hbw.cell (World.block_lt_of_cell? w _ hck)).trans hck
        have hints : IntsP (fun b => b < w.heap.size) wo (A k) (Z k) := (h2 k hlt).p.keep (fun b _ hl => hbw.block b hl) (fun _ hb _ => hb)
        have hflk : (flat Z k ++ Z k).length ≤ 131072 := by
          have e1 : (flat Z k ++ Z k).length = sumTo (fun r => (Z r).length) (k + 1) := by rw [← flat_length]; rfl
          rw [e1]
          exact Nat.le_trans (sumTo_mono _ hlt) HSum.out
        have hfa : (flat Z k).length + (Z k).length ≤ 131072 := by simpa using hflk
        have hik := HI.out k hlt
        have HON := hid hon
        have HROW := hid hrow
        have HFS := hid (show flat Z (k + 1) = flat Z k ++ Z k from rfl)
        obtain ⟨zs, hzs⟩ : ∃ zs, zs = Z k := ⟨_, rfl⟩
        rw [← hzs] at hcell hints hflk hfa hik HFS
        obtain ⟨fl, hfl⟩ : ∃ fl, fl = flat Z k := ⟨_, rfl⟩
        rw [← hfl] at hflk hfa HROW HFS
        rw [← hfl]
        clear h2 hc hck hon hrow hbw hzs hfl
        go_wp2
        go_loopw [41] (fun i wr => ∃ j : Nat, j ≤ zs.length ∧ i = .int .i64 j ∧ Only (fun b => b = wc.heap.size) wo wr ∧ wr.rowIs wc.heap.size 3 n (fun x => .int .i64 ((fl ++ zs.take j).count (x : Int) : Nat)))
          (fun i _ => zs.length - (intOf i).toNat)
        case atStart => exact ⟨0, Nat.zero_le _, rfl, Only.refl _ _, by simpa using HROW.out⟩
        case round =>
          obtain ⟨j, hj, rfl, hon2, hrow2⟩ := hrel
          by_cases hlt2 : j < zs.length
          · rcases hints with hz | ⟨b2, off2, ho2, hbb, hc2⟩
            · simp [hz] at hlt2
            rw [ho2]
            obtain ⟨y, hy⟩ : ∃ y : Nat, (y : Int) = zs.getD j 0 := by
              have := hik (zs.getD j 0) (by simp [List.getD, hlt2])
              exact ⟨(zs.getD j 0).toNat, by omega⟩
            have hyn : y < n := by
              have := hik (zs.getD j 0) (by simp [List.getD, hlt2]); omega
            have hyI : (y : Int) < (n : Int) := by omega
            have hb2n : b2 ≠ wc.heap.size := by have := H0.out.size; omega
            have ce : wr.cell? ⟨b2, off2 + j, none⟩ = some (.int .i64 (y : Int)) := by
              rw [hy]
              exact (World.cell?_of_block (w := wo) (hon2.block b2 (World.block_lt_of_cell? wo _ (hc2 j hlt2)) hb2n)).trans (hc2 j hlt2)
            obtain ⟨cy, hcy⟩ : ∃ c : Nat, c = (fl ++ zs.take j).count (y : Int) := ⟨_, rfl⟩
            have cr : wr.cell? ⟨wc.heap.size, y, none⟩ = some (.int .i64 (cy : Nat)) := by rw [hcy]; exact hrow2.cell hyn
            have fr := hrow2.frozen y
            have hcb : cy ≤ 131072 := by
              have h5 : cy ≤ (fl ++ zs.take j).length := by rw [hcy]; exact List.count_le_length
              have h6 : (zs.take j).length ≤ zs.length := List.length_take_le' _ _
              simp only [List.length_append] at h5
              omega
            have HG := hid (show _ from count_step hrow2 (c := (cy : Nat)) (y := y) (by rw [hcy]))
            have HY := hid hy
            have HON2 := hid hon2
            clear hc2 hy hcy hrow2 hon2 hik hb2n
            go_wp2
            go_roundw
            case rel =>
              refine ⟨j + 1, by omega, by go_num, HON2.out.set rfl _, ?_⟩
              rw [take_snoc _ _ hlt2, ← HY.out, ← List.append_assoc]
              exact HG.out
            case measure => simp [intOf]; omega
          · have HG := hid hrow2
            have HON2 := hid hon2
            clear hrow2 hon2 hints hik
            go_wp2
            go_roundw
            case rel =>
              refine ⟨k + 1, by omega, by go_num, ?_, HON.out.trans HON2.out, ?_⟩
              · rw [HFS.out]; simp
              · rw [HFS.out]
                have := HG.out
                rwa [List.take_of_length_le (by omega)] at this
            case measure => simp [intOf]; omega
      · obtain rfl : k = n := by omega
        have hfl : (flat Z k).length ≤ 131072 := by rw [flat_length]; exact HSum.out
        have mk0 := run_make0 (flat Z k).length (by omega)
        have HON := hid hon
        have HROW := hid hrow
        have HBW := hid hbw
        clear hon hrow hbw
        go_wp2
        clear mk0
        obtain ⟨m, hm⟩ : ∃ m, m = (flat Z k).length := ⟨_, rfl⟩
        rw [← hm] at hfl ⊢
        obtain ⟨w2, hw2⟩ : ∃ x, x = wo.alloc (.cells (madeCells #[.int .i64 0] m) 3) := ⟨_, rfl⟩
        rw [← hw2]
        have hsz2 : w2.heap.size = wo.heap.size + 1 := by rw [hw2, nblk_alloc]
        have hso : w.heap.size + 4 ≤ wo.heap.size := by have := HON.out.size; rw [HSZ.out] at this; exact this
        have hb2 : Below w.heap.size w w2 := by rw [hw2]; exact HBW.out.alloc (by omega) _
        have hblk1 : w1.heap[w.heap.size + 2]? = some (.cells (newCells (.slice oA k cA) (.slice oP nP cP) k ga gl (.slice none 0 0) (.slice none 0 0)) 60 (0, 0)) := by
          rw [HW1.out, Below.heap_alloc _ _ _ (by rw [H0.out.size]; omega)]; exact H0.out.blk
        have hra1 : w1.rowIs ga 40 k (fun _ => .slice none 0 0) := by rw [HW1.out]; exact H0.out.ra.alloc _
        have hrl1 : w1.rowIs gl 4 k (fun _ => .bool false) := by rw [HW1.out]; exact H0.out.rl.alloc _
        have keep12 : ∀ b, b < w.heap.size + 3 → w2.heap[b]? = w1.heap[b]? := fun b hb => by
          rw [hw2, Below.heap_alloc _ _ _ (by omega)]
          exact HON.out.block b (by rw [HSZ.out]; omega) (by rw [H0.out.size]; omega)
        have hblk2 := (keep12 (w.heap.size + 2) (by omega)).trans hblk1
        have gd := H0.out.gd
        have hra2 := hra1.of_block (keep12 ga (by omega))
        have hrl2 := hrl1.of_block (keep12 gl (by omega))
        have hri2 : w2.rowIs wc.heap.size 3 k (fun x => .int .i64 ((flat Z k).count (x : Int) : Nat)) := by rw [hw2]; exact HROW.out.alloc _
        have hrf2 : w2.rowIs wo.heap.size 3 m (fun _ => .int .i64 0) := by rw [hw2]; exact World.rowIs_made wo (.int .i64 0) m 3
        have hcsz := H0.out.size
        obtain ⟨gi, hgi⟩ : ∃ g, g = wc.heap.size := ⟨_, rfl⟩
        obtain ⟨gf, hgf⟩ : ∃ g, g = wo.heap.size := ⟨_, rfl⟩
        rw [← hgi] at hri2 hcsz
        rw [← hgf] at hrf2 hso hsz2
        rw [← hgi, ← hgf]
        obtain ⟨lb, hlb⟩ : ∃ g, g = w.heap.size + 2 := ⟨_, rfl⟩
        rw [← hlb] at hblk2
        rw [← hlb]
        have HSum2 := hid (show sumTo (fun x => (flat Z k).count (x : Int)) k = m by rw [hm]; exact sum_counts k _ fun y hy => by obtain ⟨r, h1, h2⟩ := (mem_flat Z k).1 hy; exact HI.out r h1 y h2)
        have HM := hid hm
        have HSZ2 := hid hsz2
        have HB2 := hid hb2
        have HBLK := hid hblk2
        have HRA := hid hra2
        have HRL := hid hrl2
        have HRI := hid hri2
        have HRF := hid hrf2
        have HGI := hid hcsz
        have HLB := hid hlb
        clear hm hw2 hsz2 hb2 hblk1 hra1 hrl1 keep12 hblk2 hra2 hrl2 hri2 hrf2 hcsz hgi hgf hlb HON HROW HBW H0 HSZ HR1 HB1 HW1
        obtain ⟨cn, hcn⟩ : ∃ cn : Nat → Nat, cn = fun x : Nat => (flat Z k).count (x : Int) := ⟨_, rfl⟩
        have HCN := hid hcn
        have HRI' : Hid (w2.rowIs gi 3 k (fun x => .int .i64 (cn x : Nat))) := by rw [hcn]; exact HRI.out
        have HSum3 : Hid (sumTo cn k = m) := by rw [hcn]; exact HSum2.out
        clear hcn HRI HSum2
        go_loopw [12, 61] (fun fr i wr => ∃ v : Nat, v ≤ k ∧ i = .int .i64 v ∧ fr = .slice (some ⟨gf, 0, none⟩) (sumTo cn v) m ∧ Only (fun b => b = ga) w2 wr ∧
            wr.rowIs ga 40 k (fun x => if x < v then .slice (adrOf gf (sumTo cn x) (cn x)) 0 (cn x) else .slice none 0 0)) (fun _ i _ => k - (intOf i).toNat)
        case atStart => exact ⟨0, Nat.zero_le _, rfl, rfl, Only.refl _ _, HRA.out.congr fun x _ => by simp⟩
        case round =>
          obtain ⟨v, hv, rfl, rfl, hon, hrow⟩ := hrel
          have HON := hid hon
          have hgi := HGI.out
          have hlb := HLB.out
          have hcl : wr.heap[lb]? = some (.cells (newCells (.slice oA k cA) (.slice oP nP cP) k ga gl (.slice none 0 0) (.slice none 0 0)) 60 (0, 0)) :=
            (hon.block lb (by rw [HSZ2.out]; omega) (by omega)).trans HBLK.out
          have c1 : wr.cell? ⟨lb, 1, none⟩ = some (.slice (some ⟨ga, 0, none⟩) k k) := cellOf hcl rfl
          by_cases hlt : v < k
          · have hri := HRI'.out.of_block (hon.block gi (by rw [HSZ2.out]; omega) (by omega))
            obtain ⟨c, hc⟩ : ∃ c, c = cn v := ⟨_, rfl⟩
            obtain ⟨p, hp⟩ : ∃ p, p = sumTo cn v := ⟨_, rfl⟩
            have ci : wr.cell? ⟨gi, v, none⟩ = some (.int .i64 (c : Nat)) := by rw [hc]; exact hri.cell hlt
            have hpc : p + c ≤ m := by
              rw [hp, hc, ← HSum3.out]
              exact sumTo_mono cn (show v + 1 ≤ k from hlt)
            have hold := hrow.cell hlt
            have hfr := hrow.frozen v
            have hsl := run_cut3 gf p c m hpc
            have hsl2 := run_cutTo gf p c m hpc
            have HG : Hid ((wr.setCell ⟨ga, v, none⟩ (.slice (adrOf gf p c) 0 c)).rowIs ga 40 k (fun x => if x < v + 1 then .slice (adrOf gf (sumTo cn x) (cn x)) 0 (cn x) else .slice none 0 0)) := by
              refine (hrow.set v _).congr fun x _ => ?_
              by_cases e : x = v
              · subst e; simp [hp, hc]
              · simp only [e, if_false, show (x < v + 1) = (x < v) from by rw [eq_iff_iff]; omega]
            have HPC : Hid (sumTo cn (v + 1) = p + c) := by rw [hp, hc]; rfl
            have hvI : (v : Int) < (k : Int) := by omega
            rw [← hp]
            clear hon hrow hri hcl hc hp hgi hlb
            go_wp2
            go_region
            clear hsl ci c1 hold hfr
            go_wp2
            go_roundw
            case rel => exact ⟨v + 1, by omega, by go_num, by rw [HPC.out], (HON.out.set rfl _).drew, HG.out.drew⟩
            case measure => simp [intOf]; omega
          · obtain rfl : v = k := by omega
            have HCL := hid hcl
            have HROW : Hid (wr.rowIs ga 40 v (fun x => .slice (adrOf gf (sumTo cn x) (cn x)) 0 (cn x))) := hrow.congr fun x hx => by rw [if_pos hx]
            have hbw : Below w.heap.size w wr := hon.below HB2.out (fun b hb => by omega) (by rw [HSZ2.out]; omega)
            have hrf := HRF.out.of_block (hon.block gf (by rw [HSZ2.out]; omega) (by omega))
            have hrl := HRL.out.of_block (hon.block gl (by rw [HSZ2.out]; omega) (by omega))
            have hsz3 : gf < wr.heap.size := hrf.lt
            have HBW := hid hbw
            have HRF3 := hid hrf
            have HRL3 := hid hrl
            clear hon hrow hcl c1 hbw hrf hrl HON HRF HRL HBLK HRA HRI' HB2 hgi hlb
            rename World => w3
            go_wp2
            go_loopw [91] (fun i wr => ∃ u : Nat, u ≤ v ∧ i = .int .i64 u ∧ Only (fun b => b = ga ∨ b = gf) w3 wr ∧ AG wr ga gf v m cn (fun x => srcs Z x u)) (fun i _ => v - (intOf i).toNat)
            case atStart =>
              refine ⟨0, Nat.zero_le _, rfl, Only.refl _ _, HROW.out.congr fun x _ => by simp [srcs], _, HRF3.out, fun x _ i hi => ?_⟩
              simp [srcs] at hi
            case round =>
              obtain ⟨u, hu, rfl, hon, hag⟩ := hrel
              obtain ⟨hgi1, hgi2⟩ : w.heap.size + 3 ≤ gi ∧ gi ≤ w.heap.size + 3 := by have := HGI.out; omega
              obtain ⟨hlb1, hlb2⟩ : w.heap.size + 2 ≤ lb ∧ lb ≤ w.heap.size + 2 := by have := HLB.out; omega
              have hbw : Below w.heap.size w wr := hon.below HBW.out (fun b hb => by omega) (by omega)
              by_cases hlt : u < v
              · obtain ⟨h1, h2⟩ := HH.out
                rcases h1 with h1 | ⟨bA, offA, ho, hc⟩
                · omega
                subst ho
                have hck : w.cell? ⟨bA, offA + u, none⟩ = some (.slice (A u) (Z u).length (C u)) := hc u hlt
                have hcell : wr.cell? ⟨bA, offA + u, none⟩ = some (.slice (A u) (Z u).length (C u)) := (hbw.cell (World.block_lt_of_cell? w _ hck)).trans hck
                have hints : IntsP (fun b => b < w.heap.size) wr (A u) (Z u) := (h2 u hlt).p.keep (fun b _ hl => hbw.block b hl) (fun _ hb _ => hb)
                have hzl : (Z u).length ≤ 131072 := Nat.le_trans (sumTo_ge (fun r => (Z r).length) hlt) HSum.out
                have hik := HI.out u hlt
                have HON := hid hon
                have HAG := hid hag
                have hwsz : w3.heap.size ≤ wr.heap.size := hon.size
                clear h2 hc hck hon hag hbw
                rename World => wo
                go_wp2
                go_loopw [98] (fun i wr => ∃ j : Nat, j ≤ (Z u).length ∧ i = .int .i64 j ∧ Only (fun b => b = ga ∨ b = gf) wo wr ∧ AG wr ga gf v m cn (fun x => srcsIn Z x u j)) (fun i _ => (Z u).length - (intOf i).toNat)
                case atStart => exact ⟨0, Nat.zero_le _, rfl, Only.refl _ _, HAG.out.congr fun x _ => (srcsIn_zero Z x u).symm⟩
                case round =>
                  obtain ⟨j, hj, rfl, hon2, hag2⟩ := hrel
                  by_cases hlt2 : j < (Z u).length
                  · rcases hints with hz | ⟨b2, off2, ho2, hbb, hc2⟩
                    · simp [hz] at hlt2
                    rw [ho2]
                    obtain ⟨y, hy⟩ : ∃ y : Nat, (y : Int) = (Z u).getD j 0 := by
                      have := hik ((Z u).getD j 0) (by simp [List.getD, hlt2])
                      exact ⟨((Z u).getD j 0).toNat, by omega⟩
                    have hyn : y < v := by
                      have := hik ((Z u).getD j 0) (by simp [List.getD, hlt2]); omega
                    have hyI : (y : Int) < (v : Int) := by omega
                    have ce : wr.cell? ⟨b2, off2 + j, none⟩ = some (.int .i64 (y : Int)) := by
                      rw [hy]
                      exact (World.cell?_of_block (w := wo) (hon2.block b2 (World.block_lt_of_cell? wo _ (hc2 j hlt2)) (by omega))).trans (hc2 j hlt2)
                    have hcl : wr.heap[lb]? = some (.cells (newCells (.slice (some ⟨bA, offA, none⟩) v cA) (.slice oP nP cP) v ga gl (.slice none 0 0) (.slice none 0 0)) 60 (0, 0)) :=
                      (hon2.block lb (by omega) (by omega)).trans ((HON.out.block lb (by omega) (by omega)).trans HCL.out)
                    have c1 : wr.cell? ⟨lb, 1, none⟩ = some (.slice (some ⟨ga, 0, none⟩) v v) := cellOf hcl rfl
                    have hroom : (srcsIn Z y u j).length < cn y := by rw [HCN.out]; show _ < (flat Z v).count (y : Int); rw [hy]; exact srcsIn_room Z v u j hlt hlt2
                    have hle : ∀ x, x < v → (srcsIn Z x u j).length ≤ cn x := fun x hx => by rw [HCN.out]; exact srcsIn_le Z x v u j hlt
                    have hadr : adrOf gf (sumTo cn y) (cn y) = some ⟨gf, sumTo cn y, none⟩ := by unfold adrOf; rw [if_neg (by omega)]
                    obtain ⟨py, hpy⟩ : ∃ p, p = sumTo cn y := ⟨_, rfl⟩
                    obtain ⟨ly, hly⟩ : ∃ p, p = (srcsIn Z y u j).length := ⟨_, rfl⟩
                    obtain ⟨cy, hcy⟩ : ∃ p, p = cn y := ⟨_, rfl⟩
                    have cg : wr.cell? ⟨ga, y, none⟩ = some (.slice (some ⟨gf, py, none⟩) ly cy) := by rw [hpy, hly, hcy, ← hadr]; exact hag2.ra.cell hyn
                    have fg := hag2.ra.frozen y
                    have hpm : py + cy ≤ m := by
                      rw [hpy, hcy, ← HSum3.out]; exact sumTo_mono cn (show y + 1 ≤ v from hyn)
                    have hlc : ly < cy := by rw [hly, hcy]; exact hroom
                    obtain ⟨ff, hff, _⟩ := hag2.rf
                    have cf := hff.cell (i := py + ly) (by omega)
                    have fff := hff.frozen (py + ly)
                    have HGS := hid (hag2.step (by omega) (y := y) (v := (u : Int)) hroom hle)
                    obtain ⟨i0, hi0, hz0, hz1, hz2⟩ := info_parts Try.info3
                    have HY := hid hy
                    have HON2 := hid hon2
                    have hsw : gf < wr.heap.size := hff.lt
                    have hgasz : ga < wr.heap.size := hag2.ra.lt
                    have hgn : ga ≠ gf := by omega
                    have hlw : lb < wr.heap.size := by omega
                    have HE := hid (And.intro hpy (And.intro hly (And.intro hcy hadr)))
                    clear hc2 hy hon2 hag2 hik hcl hroom hle hpy hly hcy hff hadr
                    go_wp2
                    have hlc1 : ly + 1 ≤ cy := hlc
                    go_region
                    clear ce c1 cg fg cf fff hlc hlc1
                    go_wp2
                    go_roundw
                    case rel =>
                      obtain ⟨hpy, hly, hcy, hadr⟩ := HE.out
                      have G := HGS.out
                      rw [hadr, ← hpy, ← hly, ← hcy] at G
                      refine ⟨j + 1, by omega, by go_num, (((HON2.out.set (Or.inr rfl) _).set (Or.inl rfl) _).alloc _).drew, ((G.congr fun x hx => ?_).alloc _).drew⟩
                      by_cases e : x = y
                      · subst e
                        rw [if_pos rfl, HY.out, srcsIn_hit Z u j hlt2]
                      · rw [if_neg e, srcsIn_miss Z x u j hlt2]
                        rw [← HY.out]; omega
                    case measure => simp [intOf]; omega
                  · have HON2 := hid hon2
                    have HAG2 := hid hag2
                    clear hon2 hag2 hints hik
                    go_wp2
                    go_roundw
                    case rel => exact ⟨u + 1, by omega, by go_num, HON.out.trans HON2.out, HAG2.out.congr fun x _ => srcsIn_all Z x u j (by omega)⟩
                    case measure => simp [intOf]; omega
              · obtain rfl : u = v := by omega
                have hblk4 : wr.heap[lb]? = some (.cells (newCells (.slice oA u cA) (.slice oP nP cP) u ga gl (.slice none 0 0) (.slice none 0 0)) 60 (0, 0)) :=
                  (hon.block lb (by omega) (by omega)).trans HCL.out
                have hrl4 := HRL3.out.of_block (hon.block gl (by omega) (by omega))
                have hlw4 : lb < wr.heap.size := by have := hon.size; omega
                have HBW4 := hid hbw
                have HAG4 := hid hag
                have HRL4 := hid hrl4
                have HB4 := hid hblk4
                have mk40 := run_make_row' (P := Try.prog) 40 3 (.int .i64 0) 8 Try.underlying40 Try.info3 rfl .i64 .i64 u (by omega) (by omega)
                clear hon hag hbw hrl4 hblk4
                rename World => w4
                go_wp2
                go_loopw [120] (fun i wr => ∃ d : Nat, i = .int .i64 d ∧ Only (fun b => b = lb) w4 wr ∧ Follow w4 wr lb u (fun q0 q1 => newCells (.slice oA u cA) (.slice oP nP cP) u ga gl q0 q1) d) (fun i _ => 2 - (intOf i).toNat)
                case atStart => exact ⟨0, rfl, Only.refl _ _, Or.inl ⟨rfl, HB4.out⟩⟩
                case round =>
                  obtain ⟨d, rfl, hon5, hfo⟩ := hrel
                  have HON5 := hid hon5
                  have hlw5 : lb < wr.heap.size := by have := hon5.size; omega
                  have hsz5 : w4.heap.size ≤ wr.heap.size := hon5.size
                  clear hon5
                  rcases hfo with ⟨rfl, hb5⟩ | ⟨rfl, g0, hg0, hb5, hr0⟩ | ⟨rfl, g0, g1, hg0, hg1, hne, hb5, hr0, hr1⟩
                  · have c6 : wr.cell? ⟨lb, 6, none⟩ = some (.slice none 0 0) := cellOf hb5 rfl
                    have f6 := frozen_of_row wr lb 6 _ 60 hb5
                    have HB5 := hid hb5
                    clear hb5
                    go_wp2
                    go_region
                    clear mk40
                    go_wp2
                    go_roundw
                    case rel =>
                      refine ⟨1, rfl, ((HON5.out.set rfl _).alloc _).drew, Or.inr (Or.inl ⟨rfl, wr.heap.size, hsz5, ?_, ?_⟩)⟩
                      · show ((wr.setCell _ _).alloc _).heap[lb]? = _
                        rw [Below.heap_alloc _ _ _ (by simpa using hlw5), heap_setCell_same wr lb 6 _ 60 _ HB5.out, newCells_set6]
                      · have t := World.rowIs_made (wr.setCell ⟨lb, 6, none⟩ (.slice (some ⟨wr.heap.size, 0, none⟩) u u)) (.int .i64 0) u 3
                        rw [nblk_setCell] at t
                        exact t.drew
                    case measure => simp [intOf]
                  · have c7 : wr.cell? ⟨lb, 7, none⟩ = some (.slice none 0 0) := cellOf hb5 rfl
                    have f7 := frozen_of_row wr lb 7 _ 60 hb5
                    have HB5 := hid hb5
                    have HR0 := hid hr0
                    have hg0l : g0 < wr.heap.size := hr0.lt
                    clear hb5 hr0
                    go_wp2
                    go_region
                    clear mk40
                    go_wp2
                    go_roundw
                    case rel =>
                      refine ⟨2, rfl, ((HON5.out.set rfl _).alloc _).drew, Or.inr (Or.inr ⟨rfl, g0, wr.heap.size, hg0, hsz5, by omega, ?_, ?_, ?_⟩)⟩
                      · show ((wr.setCell _ _).alloc _).heap[lb]? = _
                        rw [Below.heap_alloc _ _ _ (by simpa using hlw5), heap_setCell_same wr lb 7 _ 60 _ HB5.out, newCells_set7]
                      · exact ((HR0.out.setOther (by simp; omega) _).alloc _).drew
                      · have t := World.rowIs_made (wr.setCell ⟨lb, 7, none⟩ (.slice (some ⟨wr.heap.size, 0, none⟩) u u)) (.int .i64 0) u 3
                        rw [nblk_setCell] at t
                        exact t.drew
                    case measure => simp [intOf]
                  · have HB5 := hid hb5
                    have HR0 := hid hr0
                    have HR1 := hid hr1
                    clear hb5 hr0 hr1 mk40
                    go_wp2
                    go_ret
                    exact madeLL HH.out HBW4.out HON5.out HAG4.out HRL4.out HCN.out HSum3.out hg0 hg1 hne (by omega) (by omega) (by omega) (by omega) (by omega) (by omega) (by omega) (by omega) (by omega) HB5.out HR0.out HR1.out
end Go.Proofs.Qxb6617182a
