import Derived.Test.Qxb6605814aBase
import Derived.Deep.QuietTactic
import Derived.BigQuiet
namespace Go.Proofs.Qxb6605814a
open Go.RowKit

set_option maxHeartbeats 400000 in
theorem lastIndex_any (G : Nat) (s : Int) (a : Option Addr) (n c : Nat) (w : World) (c2 : w.cell? ⟨G, 2, none⟩ = some (.slice a n c)) (c6 : w.cell? ⟨G, 6, none⟩ = some (.int .u64 s)) (h0 : 0 ≤ s) (h1 : s + (n : Int) ≤ 18446744073709551615) :
    Calls Try.prog 29 #[.pointer (some ⟨G, 0, none⟩)] w fun e w' => e = .returned (.int .u64 (s + (n : Int))) ∧ ∃ m, w' = w.drewN m := by
  have w1 : IntKind.u64.wrap (n : Int) = (n : Int) := by rw [IntKind.wrap_u64]; omega
  have w2 : IntKind.u64.wrap (s + (n : Int)) = s + (n : Int) := by rw [IntKind.wrap_u64]; omega
  go_enter Try.func29, Try.ntmps29
  go_wp2_with fail
  go_quiet (fail)
  go_wp2
  go_ret
  exact ⟨rfl, _, rfl⟩

set_option maxHeartbeats 400000 in
theorem pending_any (G : Nat) (s : Int) (a : Option Addr) (n c : Nat) (w : World) (c2 : w.cell? ⟨G, 2, none⟩ = some (.slice a n c)) (c6 : w.cell? ⟨G, 6, none⟩ = some (.int .u64 s)) (h0 : 0 ≤ s) (h1 : s + (n : Int) ≤ 18446744073709551615) :
    Calls Try.prog 28 #[.pointer (some ⟨G, 0, none⟩)] w fun e w' => e = .returned (.bool (decide (0 < n))) ∧ ∃ m, w' = w.drewN m := by
  have hl : ∀ m, Calls Try.prog 29 #[.pointer (some ⟨G, 0, none⟩)] (w.drewN m) fun e w' => e = .returned (.int .u64 (s + (n : Int))) ∧ ∃ m', w' = (w.drewN m).drewN m' := fun m => lastIndex_any G s a n c (w.drewN m) c2 c6 h0 h1
  have HL : Hid (∀ m, Calls Try.prog 29 #[.pointer (some ⟨G, 0, none⟩)] (w.drewN m) fun e w' => e = .returned (.int .u64 (s + (n : Int))) ∧ ∃ m', w' = (w.drewN m).drewN m') := hl
  clear hl
  by_cases hn : n = 0
  · subst hn
    go_enter Try.func28, Try.ntmps28
    go_wp2_with fail
    go_quiet ((go_at_call 29; exact Calls.quiet_of (HL.out _)))
    go_wp2
    go_ret
    exact ⟨by simp, _, rfl⟩
  · have hd : decide (0 < n) = true := by simp; omega
    rw [hd]
    clear hd
    have hlt : s < s + (n : Int) := by omega
    go_enter Try.func28, Try.ntmps28
    go_wp2_with fail
    go_quiet ((go_at_call 29; exact Calls.quiet_of (HL.out _)))
    go_wp2
    go_ret
    exact ⟨by simp, _, rfl⟩

def PendZ (w : World) (n : Nat) (e : Ending) (w' : World) : Prop := e = .returned (.bool (decide (0 < n))) ∧ Below w.heap.size w w'
def LastZ (w : World) (s : Int) (e : Ending) (w' : World) : Prop := e = .returned (.int .u64 s) ∧ Below w.heap.size w w'

theorem zpending_any (s : Int) (a : Option Addr) (n c : Nat) (w : World) (h0 : 0 ≤ s) (h1 : s + (n : Int) ≤ 18446744073709551615) :
    Calls Try.prog 12 #[.int .u64 s, .slice a n c] w (PendZ w n) := by
  have hp := pending_any w.heap.size s a n c (w.alloc (.cells #[.nilIface, .pointer none, .slice a n c, .int .i64 0, .slice none 0 0, .slice none 0 0, .int .u64 s, .int .u64 0] 56)) ((World.cell?_alloc_new _ _ _ _).trans rfl) ((World.cell?_alloc_new _ _ _ _).trans rfl) h0 h1
  obtain ⟨bb, hbb⟩ : ∃ bb, bb = decide (0 < n) := ⟨_, rfl⟩
  rw [← hbb] at hp
  have HB : Hid (bb = decide (0 < n)) := hbb
  clear hbb
  go_enter Try.func12, Try.ntmps12
  go_wp2_with (go_at_call 28; refine hp.mono ?_; rintro e w' ⟨rfl, m, rfl⟩)
  go_wp2
  go_ret
  exact ⟨by rw [← HB.out]; rfl, below_drewN ((Below.refl _ _).alloc (Nat.le_refl _) _) _⟩

theorem zlast_any (s : Int) (a : Option Addr) (n c : Nat) (w : World) (h0 : 0 ≤ s) (h1 : s + (n : Int) ≤ 18446744073709551615) :
    Calls Try.prog 14 #[.int .u64 s, .slice a n c] w (LastZ w (s + (n : Int))) := by
  have hp := lastIndex_any w.heap.size s a n c (w.alloc (.cells #[.nilIface, .pointer none, .slice a n c, .int .i64 0, .slice none 0 0, .slice none 0 0, .int .u64 s, .int .u64 0] 56)) ((World.cell?_alloc_new _ _ _ _).trans rfl) ((World.cell?_alloc_new _ _ _ _).trans rfl) h0 h1
  go_enter Try.func14, Try.ntmps14
  go_wp2_with (go_at_call 29; refine hp.mono ?_; rintro e w' ⟨rfl, m, rfl⟩)
  go_wp2
  go_ret
  exact ⟨rfl, below_drewN ((Below.refl _ _).alloc (Nat.le_refl _) _) _⟩

end Go.Proofs.Qxb6605814a
