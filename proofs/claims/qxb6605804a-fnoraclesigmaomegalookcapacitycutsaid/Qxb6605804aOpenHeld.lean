import Derived.Test.Qxb6605804aHeldClone
import Derived.ProofKit
import Derived.Deep.Slices
import Derived.Deep.SlicePairs
namespace Go.Proofs.Qxb6605804a
open Go.RowKit Go.ChangeShapes Go.WideShapes
open Go.Deep (open_slice1 open_slice_pairs choose_lt)

section
variable {H : Type} {enc : TypeId × Value → H} {w : World} {base : Nat} {spare : Nat → Bool} {held : Bool}

/-- A row of pairs that came in. -/
theorem row_in {fuel : Nat} {V : Value} {x : DataW H × List MemPlace} (h : DataW.trod enc Try.prog w base spare held fuel 42 [V] = some x) :
    ∃ (row : List (Int × Int)) (a : Option Addr) (c : Nat), V = .slice a row.length c ∧ Sees w (.slice a row.length c) row.length (pcells row) := by
  rcases open_slice_pairs Try.underlying42 Try.underlying76 (by kernel_rfl) rfl rfl (by kernel_rfl) (by kernel_rfl) h with ⟨hcs, _⟩ | ⟨y, len, cap, m, n, V0, V1, D0, D1, P0, P1, hcs, _, hl, _, hm, _, hx⟩
  · simp at hcs
    subst hcs
    exact ⟨[], none, 0, rfl, .inl ⟨rfl, rfl, rfl⟩⟩
  · simp at hcs
    subst hcs
    have hlm : len ≤ m := by rw [hm]; split <;> omega
    obtain ⟨f, hf⟩ := choose_lt (α := Int × Int) (n := len) (p := fun i r => w.cell? (y.add (i * 2)) = some (.int .i64 r.1) ∧ w.cell? (y.add (i * 2 + 1)) = some (.int .i64 r.2)) (fun i hi => by
      obtain ⟨c0, c1, g0, g1⟩ := hx i (by omega)
      obtain ⟨s, e0, _⟩ := DataW.trod_int Try.underlying3 g0
      obtain ⟨t, e1, _⟩ := DataW.trod_int Try.underlying3 g1
      simp at e0 e1
      rw [e0] at c0
      rw [e1] at c1
      exact ⟨(s, t), c0, c1⟩)
    refine ⟨(List.range len).map f, some y, cap, by simp, .inr ⟨y, cap, rfl, fun j u hj => ?_⟩⟩
    have hjl := (List.getElem?_eq_some_iff.1 hj).1
    rw [pcells_length, List.length_map, List.length_range] at hjl
    obtain ⟨k, d, hd, rfl⟩ : ∃ k d, d < 2 ∧ j = k * 2 + d := ⟨j / 2, j % 2, Nat.mod_lt _ (by omega), by omega⟩
    have hk : k < len := by omega
    obtain ⟨r0, r1⟩ := pcells_get ((List.range len).map f) k (f k) (by simp [hk])
    obtain ⟨c0, c1⟩ := hf k hk
    match d, hd with
    | 0, _ => rw [Nat.add_zero] at hj ⊢; rw [c0, ← r0]; exact hj
    | 1, _ => rw [c1, ← r1]; exact hj

/-- A slice of rows that came in. -/
theorem held_in {fuel : Nat} {a : Option Addr} {len cap : Nat} {x : DataW H × List MemPlace} (h : DataW.trod enc Try.prog w base spare held fuel 22 [.slice a len cap] = some x) :
    ∃ Hs : List (List (Int × Int)), HeldIn w a len Hs ∧ (a = none → cap = 0) := by
  rcases open_slice1 Try.underlying22 (by kernel_rfl) h with ⟨hcs, _⟩ | ⟨y, l, c, m, n, V, D, Pl, hcs, _, hl, _, hm, _, hx⟩
  · simp at hcs
    obtain ⟨rfl, rfl, rfl⟩ := hcs
    exact ⟨[], ⟨rfl, fun _ => rfl, fun j row h => by simp at h⟩, fun _ => rfl⟩
  · simp at hcs
    obtain ⟨rfl, rfl, rfl⟩ := hcs
    have hlm : len ≤ m := by rw [hm]; split <;> omega
    obtain ⟨f, hf⟩ := choose_lt (α := List (Int × Int)) (n := len) (p := fun i row => ∃ (a : Option Addr) (c : Nat), w.cell? (y.add i) = some (.slice a row.length c) ∧ Sees w (.slice a row.length c) row.length (pcells row)) (fun i hi => by
      obtain ⟨c0, g0⟩ := hx i (by omega)
      obtain ⟨row, a, c, hV, hS⟩ := row_in g0
      rw [hV] at c0
      exact ⟨row, a, c, c0, hS⟩)
    refine ⟨(List.range len).map f, ⟨by simp, by simp, fun j row hj => ?_⟩, by simp⟩
    have hjl : j < len := by
      have := (List.getElem?_eq_some_iff.1 hj).1
      simpa using this
    obtain rfl : f j = row := by simpa [hjl] using hj
    obtain ⟨a, c, hc, hS⟩ := hf j hjl
    obtain ⟨b, off, spot⟩ := y
    have hspot : spot = none := by simpa [Addr.add] using World.cell?_spot (hx 0 (by omega)).1
    subst hspot
    rw [Addr.add_lit] at hc
    exact ⟨b, off, a, c, rfl, hc, hS⟩
end

theorem ownS : ownKnob Try.prog.godebug = none := by kernel_rfl
theorem laidOutS : laidOutB Try.prog = true := by kernel_rfl

end Go.Proofs.Qxb6605804a
