import Derived.Test.Qxb6617182aProg
import Derived.Test.Qxb6617182aBase
import Derived.Deep.QuietTactic
import Derived.BigQuiet
import Derived.WalkSmall
namespace Go.Proofs.Qxb6617182a
open Go.RowKit Go.Deep

/-- It returns true, and only draws. -/
def RetTrue (w : World) (e : Ending) (w' : World) : Prop := e = .returned (.bool true) ∧ Below w.heap.size w w' ∧ w'.heap.size = w.heap.size

set_option maxHeartbeats 1000000 in
theorem sameInts_any (o1 o2 : Option Addr) (c1 c2 : Nat) (zs : List Int) (w : World) (h1 : IntsAt w o1 zs) (h2 : IntsAt w o2 zs) (hm : zs.length ≤ 1048576) :
    Calls Try.prog 30 #[.slice o1 zs.length c1, .slice o2 zs.length c2] w (RetTrue w) := by
  go_enter Try.func30, Try.ntmps30
  go_wp2
  go_loopw [5] (fun i wr => ∃ k : Nat, k ≤ zs.length ∧ i = .int .i64 k ∧ Below w.heap.size w wr ∧ wr.heap.size = w.heap.size) (fun i _ => zs.length - (intOf i).toNat)
  case atStart => exact ⟨0, Nat.zero_le _, rfl, Below.refl _ _, rfl⟩
  case round =>
    obtain ⟨k, hk, rfl, hb, hs⟩ := hrel
    have HS := hid hs
    clear hs
    by_cases hlt : k < zs.length
    · rcases h1 with h1 | ⟨b1, off1, ho1, hc1⟩
      · simp [h1] at hlt
      rcases h2 with h2 | ⟨b2, off2, ho2, hc2⟩
      · simp [h2] at hlt
      subst ho1 ho2
      obtain ⟨x, hx⟩ : ∃ x, x = zs.getD k 0 := ⟨_, rfl⟩
      have e1 : wr.cell? ⟨b1, off1 + k, none⟩ = some (.int .i64 x) := by rw [hx]; exact (hb.cell (World.block_lt_of_cell? w _ (hc1 k hlt))).trans (hc1 k hlt)
      have e2 : wr.cell? ⟨b2, off2 + k, none⟩ = some (.int .i64 x) := by rw [hx]; exact (hb.cell (World.block_lt_of_cell? w _ (hc2 k hlt))).trans (hc2 k hlt)
      have hI : (k : Int) < (zs.length : Int) := by omega
      clear hc1 hc2 hx
      go_wp2
      go_quiet (fail)
      go_wp2
      go_roundw
      case rel => exact ⟨k + 1, by omega, by go_num, below_drewN hb _, HS.out⟩
      case measure => simp [intOf]; omega
    · clear h1 h2
      go_wp2
      go_ret
      exact ⟨rfl, hb, HS.out⟩
end Go.Proofs.Qxb6617182a
