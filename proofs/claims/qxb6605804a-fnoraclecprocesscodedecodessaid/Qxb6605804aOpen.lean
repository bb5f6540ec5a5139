import Derived.Test.Qxb6605804aParts
import Derived.ProofKit
import Derived.Deep.Slices
import Derived.Deep.Strs
namespace Go.Proofs.Qxb6605804a
open Go.RowKit Go.ChangeShapes Go.WideShapes
open Go.Deep (open_slice trod_struct3 choose_lt add_add)

theorem Try.cells3 : Try.prog.cellsOf 3 = 1 := by kernel_rfl
theorem Try.cells5 : Try.prog.cellsOf 5 = 1 := by kernel_rfl
theorem Try.cells70 : Try.prog.cellsOf 70 = 3 := by kernel_rfl

theorem list3 {α : Type} {l : List α} (h : l.length = 3) : ∃ a b c, l = [a, b, c] := by
  match l, h with
  | [a, b, c], _ => exact ⟨a, b, c, rfl⟩

section
variable {H : Type} {enc : TypeId × Value → H} {w : World} {base : Nat} {spare : Nat → Bool} {held : Bool}

/-- A slice of integers that came in shows its numbers. -/
theorem sees_ints {P : Program} {t e : TypeId} {k : IntKind} {fuel : Nat} {a : Option Addr} {len cap : Nat} {x : DataW H × List MemPlace} (ht : P.underlying t = some (.slice e)) (he : P.underlying e = some (.int k)) (hc : P.cellsOf e = 1)
    (h : DataW.trod enc P w base spare held fuel t [.slice a len cap] = some x) : ∃ zs : List Int, Sees w (.slice a len cap) len (zs.map (Value.int k)) ∧ zs.length = len ∧ ∀ n ∈ zs, (Lit.int k n).wf = true := by
  rcases open_ints ht he hc h with ⟨hcs, _⟩ | ⟨y, l, c, zs, hcs, _, hl, _, hz, _, hcell, hwz⟩
  · simp at hcs
    obtain ⟨rfl, rfl, rfl⟩ := hcs
    exact ⟨[], .inl ⟨rfl, rfl, rfl⟩, rfl, by simp⟩
  · simp at hcs
    obtain ⟨rfl, rfl, rfl⟩ := hcs
    have hlz : len ≤ zs.length := by rw [hz]; split <;> omega
    refine ⟨zs.take len, .inr ⟨_, _, rfl, fun j u hj => ?_⟩, by rw [List.length_take]; omega, fun n hn => hwz n (List.mem_of_mem_take hn)⟩
    have hjl : j < len := by
      have := (List.getElem?_eq_some_iff.1 hj).1
      simp at this
      omega
    rw [hcell j (by omega)]
    rw [← hj]
    simp [List.getD, hjl, show j < zs.length by omega]

/-- A slice of raises that came in shows them. -/
theorem sees_raises {fuel : Nat} {a : Option Addr} {len cap : Nat} {x : DataW H × List MemPlace} (h : DataW.trod enc Try.prog w base spare held fuel 52 [.slice a len cap] = some x) :
    ∃ R : List (Int × Int × Int), Sees w (.slice a len cap) len (rcells R) ∧ R.length = len := by
  rcases open_slice Try.underlying52 h with ⟨hcs, _⟩ | ⟨y, l, c, m, n, D, Pl, hcs, _, hl, _, hm, _, hx⟩
  · simp at hcs
    obtain ⟨rfl, rfl, rfl⟩ := hcs
    exact ⟨[], .inl ⟨rfl, rfl, rfl⟩, rfl⟩
  · simp at hcs
    obtain ⟨rfl, rfl, rfl⟩ := hcs
    have hlm : len ≤ m := by rw [hm]; split <;> omega
    rw [Try.cells70] at hx
    obtain ⟨f, hf⟩ := choose_lt (α := Int × Int × Int) (n := len) (p := fun i r => w.cell? (y.add (i * 3)) = some (.int .i64 r.1) ∧ w.cell? (y.add (i * 3 + 1)) = some (.int .i64 r.2.1) ∧ w.cell? (y.add (i * 3 + 2)) = some (.int .i64 r.2.2)) (fun i hi => by
      obtain ⟨cs', h1, h2⟩ := hx i (by omega)
      obtain ⟨_, hlen, hcell⟩ := World.cells?_some h1
      obtain ⟨y0, y1, y2, k, _, _, g0, g1, g2⟩ := trod_struct3 Try.underlying70 h2
      obtain ⟨v0, v1, v2, rfl⟩ := list3 hlen
      simp [Try.cells3] at g0 g1 g2
      obtain ⟨s, e0, _⟩ := DataW.trod_int Try.underlying3 g0
      obtain ⟨p, e1, _⟩ := DataW.trod_int Try.underlying3 g1
      obtain ⟨t, e2, _⟩ := DataW.trod_int Try.underlying3 g2
      simp at e0 e1 e2
      subst e0 e1 e2
      have c0 := hcell 0 (by omega)
      have c1 := hcell 1 (by omega)
      have c2 := hcell 2 (by omega)
      rw [add_add] at c0 c1 c2
      exact ⟨(s, p, t), by simpa using c0, by simpa using c1, by simpa using c2⟩)
    refine ⟨(List.range len).map f, .inr ⟨_, _, rfl, fun j u hj => ?_⟩, by simp⟩
    have hjl := (List.getElem?_eq_some_iff.1 hj).1
    rw [rcells_length, List.length_map, List.length_range] at hjl
    obtain ⟨k, d, hd, rfl⟩ : ∃ k d, d < 3 ∧ j = k * 3 + d := ⟨j / 3, j % 3, Nat.mod_lt _ (by omega), by omega⟩
    have hk : k < len := by omega
    obtain ⟨r0, r1, r2⟩ := rcells_get ((List.range len).map f) k (f k) (by simp [hk])
    obtain ⟨c0, c1, c2⟩ := hf k hk
    match d, hd with
    | 0, _ => rw [Nat.add_zero] at hj ⊢; rw [c0, ← r0]; exact hj
    | 1, _ => rw [c1, ← r1]; exact hj
    | 2, _ => rw [c2, ← r2]; exact hj
end

theorem own : ownKnob Try.prog.godebug = none := by kernel_rfl
theorem laidOut : laidOutB Try.prog = true := by kernel_rfl

end Go.Proofs.Qxb6605804a
