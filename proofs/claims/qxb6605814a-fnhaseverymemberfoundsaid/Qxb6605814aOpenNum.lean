import Derived.Test.Qxb6605814aNums
import Derived.ProofKit
import Derived.Deep.Slices
import Derived.ChangeOld
import Derived.OpenShut
namespace Go.Proofs.Qxb6605814a
open Go.RowKit Go.ChangeShapes Go.WideShapes Go.ChangeAt

section
variable {H : Type} {enc : TypeId × Value → H} {w : World} {base : Nat} {spare : Nat → Bool} {held : Bool}

/-- What came in as a slice of numbers: the numbers lie there, each fits, and nil has no room. -/
theorem nums_in {fuel : Nat} {a : Option Addr} {len cap : Nat} {x : DataW H × List MemPlace} (h : DataW.trod enc Try.prog w base spare held fuel 30 [.slice a len cap] = some x) :
    ∃ zs : List Int, Nums w a len zs ∧ (a = none → cap = 0) ∧ ∀ z ∈ zs, 0 ≤ z ∧ z ≤ 18446744073709551615 := by
  rcases open_ints Try.underlying30 Try.underlying22 (by kernel_rfl) h with ⟨hcs, _⟩ | ⟨y, l, c, zs, hcs, _, hl, _, hz, _, hcell, hwf⟩
  · simp at hcs
    obtain ⟨rfl, rfl, rfl⟩ := hcs
    exact ⟨[], ⟨rfl, fun _ => rfl, fun j z hj => by simp at hj⟩, fun _ => rfl, by simp⟩
  · simp at hcs
    obtain ⟨rfl, rfl, rfl⟩ := hcs
    have hlz : len ≤ zs.length := by rw [hz]; split <;> omega
    refine ⟨zs.take len, ⟨by simp; omega, by simp, fun j z hj => ?_⟩, by simp, fun z hz => ?_⟩
    · obtain ⟨b, off, spot⟩ := y
      have hjl : j < len := by
        have h1 := (List.getElem?_eq_some_iff.1 hj).1
        simp at h1
        omega
      have hspot : spot = none := by simpa [Addr.add] using World.cell?_spot (hcell 0 (by omega))
      subst hspot
      have hc := hcell j (by omega)
      rw [Addr.add_lit] at hc
      rw [List.getElem?_take, if_pos hjl] at hj
      refine ⟨b, off, rfl, ?_⟩
      rw [hc, List.getD_eq_getElem?_getD, hj]
      rfl
    · exact bounds_u64 (hwf z (List.mem_of_mem_take hz))
end

theorem ownN : ownKnob Try.prog.godebug = none := by kernel_rfl
theorem laidOutN : laidOutB Try.prog = true := by kernel_rfl

end Go.Proofs.Qxb6605814a
