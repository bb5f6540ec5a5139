import Derived.Test.Qxb6605804aToHeld
import Derived.Deep.QuietTactic
import Derived.BigQuiet
namespace Go.Proofs.Qxb6605804a
open Go.RowKit

/-- An oracle lies in block G. -/
def OracleAt (w : World) (G : Nat) (anarchy fault leader : Int) (v : Value) : Prop :=
  w.cell? ⟨G, 1, none⟩ = some (.int .i64 anarchy) ∧ w.cell? ⟨G, 2, none⟩ = some (.int .i64 fault) ∧ w.cell? ⟨G, 3, none⟩ = some (.pointer none) ∧ w.cell? ⟨G, 4, none⟩ = some (.int .i64 leader) ∧ w.cell? ⟨G, 6, none⟩ = some v

theorem OracleAt.below {w w' : World} {G B : Nat} {anarchy fault leader : Int} {v : Value} (h : OracleAt w G anarchy fault leader v) (hb : Below B w w') (hG : G < B) : OracleAt w' G anarchy fault leader v := by
  obtain ⟨h1, h2, h3, h4, h6⟩ := h
  exact ⟨(hb.cell (p := ⟨G, 1, none⟩) hG).trans h1, (hb.cell (p := ⟨G, 2, none⟩) hG).trans h2, (hb.cell (p := ⟨G, 3, none⟩) hG).trans h3, (hb.cell (p := ⟨G, 4, none⟩) hG).trans h4, (hb.cell (p := ⟨G, 6, none⟩) hG).trans h6⟩

def NewS (w : World) (anarchy fault leader : Int) (v : Value) (e : Ending) (w' : World) : Prop :=
  ∃ G, e = .returned (.pointer (some ⟨G, 0, none⟩)) ∧ w.heap.size ≤ G ∧ G < w'.heap.size ∧ OracleAt w' G anarchy fault leader v ∧ Below w.heap.size w w'

theorem newS_any (anarchy fault leader : Int) (a : Option Addr) (n c : Nat) (w : World) :
    Calls Try.prog 14 #[.agg #[.int .i64 0, .int .i64 anarchy, .int .i64 fault], .int .i64 leader, .slice a n c] w (NewS w anarchy fault leader (.slice a n c)) := by
  go_enter Try.func14, Try.ntmps14
  go_wp2
  go_ret
  refine ⟨w.heap.size + 1, rfl, by omega, by simp, ⟨?_, ?_, ?_, ?_, ?_⟩, ((Below.refl _ _).alloc (Nat.le_refl _) _).alloc (by simp) _⟩
  all_goals exact (World.cell?_alloc_at _ _ _ _ (by simp)).trans rfl

/-- A move: nil, or one that states omega. -/
def MoveAt (w : World) (mn : Bool) (omega : Int) (m : Option Addr) : Prop :=
  (mn = true ∧ m = none) ∨ (mn = false ∧ ∃ M, m = some ⟨M, 0, none⟩ ∧ w.cell? ⟨M, 7, none⟩ = some (.int .i64 omega) ∧ M < w.heap.size)

theorem MoveAt.below {w w' : World} {mn : Bool} {omega : Int} {m : Option Addr} (h : MoveAt w mn omega m) (hb : Below w.heap.size w w') : MoveAt w' mn omega m := by
  rcases h with h | ⟨h, M, hm, hc, hl⟩
  · exact .inl h
  · exact .inr ⟨h, M, hm, (hb.cell (p := ⟨M, 7, none⟩) hl).trans hc, by have := hb.size; omega⟩

def Moved (w : World) (mn : Bool) (omega : Int) (e : Ending) (w' : World) : Prop :=
  ∃ m, e = .returned (.pointer m) ∧ MoveAt w' mn omega m ∧ Below w.heap.size w w'

theorem move_any (mn : Bool) (omega : Int) (w : World) : Calls Try.prog 16 #[.bool mn, .int .i64 omega] w (Moved w mn omega) := by
  cases mn with
  | true =>
    go_enter Try.func16, Try.ntmps16
    go_wp2
    go_ret
    exact ⟨none, rfl, .inl ⟨rfl, rfl⟩, Below.refl _ _⟩
  | false =>
    go_enter Try.func16, Try.ntmps16
    go_wp2
    go_ret
    exact ⟨_, rfl, .inr ⟨rfl, w.heap.size, rfl, (World.cell?_alloc_new _ _ _ _).trans rfl, by simp⟩, (Below.refl _ _).alloc (Nat.le_refl _) _⟩

/-- What AOmega shows when its anarchy is over. -/
def leadB (fault leader i : Int) : Bool := (i == leader) && (fault != 3)

theorem leads_any (G : Nat) (anarchy fault leader : Int) (v : Value) (i : Int) (w : World) (h : OracleAt w G anarchy fault leader v) :
    Calls Try.prog 39 #[.pointer (some ⟨G, 0, none⟩), .int .i64 i] w fun e w' => e = .returned (.bool (leadB fault leader i)) ∧ w = w' := by
  obtain ⟨h1, h2, h3, h4, h6⟩ := h
  by_cases hi : i = leader
  · subst hi
    have e : leadB fault i i = (fault != 3) := by simp [leadB]
    rw [e]
    clear e
    go_enter Try.func39, Try.ntmps39
    go_wp2
    go_ret
    exact ⟨rfl, rfl⟩
  · have hd : (i == leader) = false := by simpa using hi
    have e : leadB fault leader i = false := by simp [leadB, hi]
    rw [e]
    clear e
    go_enter Try.func39, Try.ntmps39
    go_wp2
    go_ret
    exact ⟨rfl, rfl⟩

/-- Is step one of the anarchy? -/
def anarB (anarchy fault step : Int) : Bool := (fault != 3) && decide (step ≤ anarchy)

theorem anarchic_any (G : Nat) (anarchy fault leader : Int) (v : Value) (step : Int) (w : World) (h : OracleAt w G anarchy fault leader v) (hs : 1 ≤ step) :
    Calls Try.prog 40 #[.pointer (some ⟨G, 0, none⟩), .int .i64 step] w fun e w' => e = .returned (.bool (anarB anarchy fault step)) ∧ w = w' := by
  obtain ⟨h1, h2, h3, h4, h6⟩ := h
  by_cases hf : fault = 3
  · subst hf
    have e : anarB anarchy 3 step = false := by simp [anarB]
    rw [e]
    clear e
    go_enter Try.func40, Try.ntmps40
    go_wp2
    go_ret
    exact ⟨by simp; omega, rfl⟩
  · have hd : (fault == 3) = false := by simpa using hf
    have e : anarB anarchy fault step = decide (step ≤ anarchy) := by simp [anarB, hf]
    rw [e]
    clear e
    go_enter Try.func40, Try.ntmps40
    go_wp2
    go_ret
    exact ⟨rfl, rfl⟩

end Go.Proofs.Qxb6605804a
