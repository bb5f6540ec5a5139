import Derived.Test.Qxb6605804aBase
import Derived.Deep.QuietTactic
import Derived.BigQuiet
namespace Go.Proofs.Qxb6605804a
open Go.RowKit

/-- A call that answers the bool b, having drawn at most. -/
def Tells (w : World) (b : Bool) (e : Ending) (w' : World) : Prop := ∃ m, e = .returned (.bool b) ∧ w.drewN m = w'

set_option maxHeartbeats 800000 in
set_option maxRecDepth 100000 in
theorem hasPrefix_any (B1 B2 : Nat) (vx vp : Value) (nx np : Nat) (xs ps : List Value) (w : World) (hx : w.ownsRow B1 5 1 vx nx xs) (hp : w.ownsRow B2 5 1 vp np ps)
    (hn : np ≤ nx) (hnm : nx ≤ 140737488355328) (heq : ∀ j, j < np → ∃ z, xs[j]? = some (.int .u8 z) ∧ ps[j]? = some (.int .u8 z)) :
    Calls Try.prog 32 #[vx, vp] w (Tells w true) := by
  by_cases h0 : np = 0
  · subst h0
    obtain ⟨ax, cx, rfl⟩ : ∃ a c, vx = .slice a nx c := by
      rcases hx.2 with ⟨rfl, rfl⟩ | ⟨g, cap, cur, rfl, _⟩
      · exact ⟨_, _, rfl⟩
      · exact ⟨_, _, rfl⟩
    obtain ⟨ap, cp, rfl⟩ : ∃ a c, vp = .slice a 0 c := by
      rcases hp.2 with ⟨rfl, _⟩ | ⟨g, cap, cur, rfl, _⟩
      · exact ⟨_, _, rfl⟩
      · exact ⟨_, _, rfl⟩
    clear hx hp heq
    go_enter Try.func32, Try.ntmps32
    go_wp2
    refine wp_loop_rounds 1 ?_
    rw [rounds_succ]
    go_wp2
    go_ret
    exact ⟨0, rfl, rfl⟩
  · obtain ⟨g, cx, rfl⟩ : ∃ g c, vx = .slice (some ⟨g, 0, none⟩) nx c := by
      rcases hx.2 with ⟨rfl, rfl⟩ | ⟨g, cap, cur, rfl, _⟩
      · omega
      · exact ⟨_, _, rfl⟩
    obtain ⟨g', cp, rfl⟩ : ∃ g c, vp = .slice (some ⟨g, 0, none⟩) np c := by
      rcases hp.2 with ⟨rfl, rfl⟩ | ⟨g, cap, cur, rfl, _⟩
      · omega
      · exact ⟨_, _, rfl⟩
    have hcell : ∀ j, j < np → ∃ z, w.cell? ⟨g, j, none⟩ = some (.int .u8 z) ∧ w.cell? ⟨g', j, none⟩ = some (.int .u8 z) := by
      intro j hj
      obtain ⟨z, h1, h2⟩ := heq j hj
      exact ⟨z, (hx.cellAt j (by omega)).trans h1, (hp.cellAt j (by omega)).trans h2⟩
    clear hx hp heq
    go_enter Try.func32, Try.ntmps32
    go_wp2
    go_loopw [5] (fun i wr => ∃ k m : Nat, i = .int .i64 k ∧ k ≤ np ∧ wr = w.drewN m) (fun i _ => np - (intOf i).toNat)
    case atStart => exact ⟨0, 0, rfl, Nat.zero_le _, rfl⟩
    case round =>
      obtain ⟨k, m, rfl, hk, rfl⟩ := hrel
      by_cases hlt : k < np
      · obtain ⟨z, c1, c2⟩ := hcell k hlt
        have hltx : (k : Int) < (nx : Int) := by omega
        have hltp : (k : Int) < (np : Int) := by omega
        clear hcell
        go_wp2_with fail
        go_quiet (fail)
        go_wp2
        go_roundw
        case rel => exact ⟨k + 1, _, by go_num, by omega, rfl⟩
        case measure => simp [intOf]; omega
      · go_wp2
        go_ret
        exact ⟨m, rfl, rfl⟩

end Go.Proofs.Qxb6605804a
