import Derived.Test.Qxb6605814aEntries
import Derived.ProofKit
import Derived.Deep.Slices
namespace Go.Proofs.Qxb6605814a
open Go.RowKit Go.ChangeShapes Go.WideShapes
open Go.Deep (open_slice choose_lt add_add)

theorem Try.cells46 : Try.prog.cellsOf 46 = 4 := by kernel_rfl
theorem Try.cells22 : Try.prog.cellsOf 22 = 1 := by kernel_rfl
theorem Try.cells5 : Try.prog.cellsOf 5 = 1 := by kernel_rfl
theorem Try.cells44 : Try.prog.cellsOf 44 = 1 := by kernel_rfl

theorem list4 {α : Type} {l : List α} (h : l.length = 4) : ∃ a b c d, l = [a, b, c, d] := by
  match l, h with
  | [a, b, c, d], _ => exact ⟨a, b, c, d, rfl⟩

section
variable {H : Type} {enc : TypeId × Value → H} {w : World} {base : Nat} {spare : Nat → Bool} {held : Bool}

theorem bytes_in {fuel : Nat} {V : Value} {x : DataW H × List MemPlace} (h : DataW.trod enc Try.prog w base spare held fuel 44 [V] = some x) :
    ∃ (a : Option Addr) (d c : Nat), V = .slice a d c ∧ BytesIn w a d ∧ (a = none → c = 0 ∧ d = 0) := by
  rcases open_ints Try.underlying44 Try.underlying5 Try.cells5 h with ⟨hcs, _⟩ | ⟨y, l, c, zs, hcs, _, hl, _, hz, _, hcell, _⟩
  · simp at hcs
    subst hcs
    exact ⟨none, 0, 0, rfl, fun j hj => absurd hj (Nat.not_lt_zero _), fun _ => ⟨rfl, rfl⟩⟩
  · simp at hcs
    subst hcs
    have hlz : l ≤ zs.length := by rw [hz]; split <;> omega
    refine ⟨some y, l, c, rfl, fun j hj => ?_, by simp⟩
    have hc := hcell j (by omega)
    obtain ⟨b, off, spot⟩ := y
    have hspot : spot = none := by simpa [Addr.add] using World.cell?_spot (hcell 0 (by omega))
    subst hspot
    rw [Addr.add_lit] at hc
    exact ⟨b, off, _, rfl, hc⟩

theorem entry_in {fuel : Nat} {cs : List Value} {x : DataW H × List MemPlace} (hlen : cs.length = 4) (h : DataW.trod enc Try.prog w base spare held fuel 46 cs = some x) :
    ∃ (i t y : Int) (a : Option Addr) (d c : Nat), cs = [.int .u64 i, .int .u64 t, .int .u8 y, .slice a d c] ∧ BytesIn w a d ∧ (a = none → c = 0 ∧ d = 0) := by
  obtain ⟨v0, v1, v2, v3, rfl⟩ := list4 hlen
  obtain ⟨xs, n, _, _, _, hxl, hf⟩ := DataW.trod_struct Try.underlying46 h
  obtain ⟨y0, y1, y2, y3, rfl⟩ := list4 hxl
  have g0 := hf 0 _ rfl
  have g1 := hf 1 _ rfl
  have g2 := hf 2 _ rfl
  have g3 := hf 3 _ rfl
  simp [Try.cells22, Try.cells5, Try.cells44] at g0 g1 g2 g3
  obtain ⟨i, e0, _⟩ := DataW.trod_int Try.underlying22 g0
  obtain ⟨t, e1, _⟩ := DataW.trod_int Try.underlying22 g1
  obtain ⟨y, e2, _⟩ := DataW.trod_int Try.underlying5 g2
  simp at e0 e1 e2
  subst e0 e1 e2
  obtain ⟨a, d, c, hv, hb, hn⟩ := bytes_in g3
  subst hv
  exact ⟨i, t, y, a, d, c, rfl, hb, hn⟩

theorem entries_in {fuel : Nat} {a : Option Addr} {len cap : Nat} {x : DataW H × List MemPlace} (h : DataW.trod enc Try.prog w base spare held fuel 23 [.slice a len cap] = some x) :
    ∃ D : Nat → Nat, EntriesIn w a len D ∧ (a = none → cap = 0) := by
  rcases open_slice Try.underlying23 h with ⟨hcs, _⟩ | ⟨y, l, c, m, n, D, Pl, hcs, _, hl, _, hm, _, hx⟩
  · simp at hcs
    obtain ⟨rfl, rfl, rfl⟩ := hcs
    exact ⟨fun _ => 0, ⟨fun _ => rfl, fun j hj => absurd hj (Nat.not_lt_zero _)⟩, fun _ => rfl⟩
  · simp at hcs
    obtain ⟨rfl, rfl, rfl⟩ := hcs
    have hlm : len ≤ m := by rw [hm]; split <;> omega
    rw [Try.cells46] at hx
    have each : ∀ i, i < len → ∃ d : Nat, ∃ (b off : Nat) (x t z : Int) (a : Option Addr) (c : Nat), some y = some ⟨b, off, none⟩ ∧ w.cell? ⟨b, off + i * 4, none⟩ = some (.int .u64 x) ∧ w.cell? ⟨b, off + i * 4 + 1, none⟩ = some (.int .u64 t) ∧
        w.cell? ⟨b, off + i * 4 + 2, none⟩ = some (.int .u8 z) ∧ w.cell? ⟨b, off + i * 4 + 3, none⟩ = some (.slice a d c) ∧ BytesIn w a d ∧ (a = none → c = 0 ∧ d = 0) := by
      intro i hi
      obtain ⟨cs', h1, h2⟩ := hx i (by omega)
      obtain ⟨_, hlen, hcell⟩ := World.cells?_some h1
      obtain ⟨x, t, z, a, d, c, rfl, hb, hn⟩ := entry_in hlen h2
      have c0 := hcell 0 (by omega)
      have c1 := hcell 1 (by omega)
      have c2 := hcell 2 (by omega)
      have c3 := hcell 3 (by omega)
      rw [add_add] at c0 c1 c2 c3
      obtain ⟨b, off, spot⟩ := y
      have hspot : spot = none := by
        obtain ⟨cs0, k1, k2⟩ := hx 0 (by omega)
        obtain ⟨_, klen, kcell⟩ := World.cells?_some k1
        obtain ⟨v0, v1, v2, v3, rfl⟩ := list4 klen
        have k0 := (kcell 0 (by omega)).trans rfl
        simpa [Addr.add] using World.cell?_spot k0
      subst hspot
      rw [Addr.add_lit] at c0 c1 c2 c3
      exact ⟨d, b, off, x, t, z, a, c, rfl, by simpa using c0, by simpa [Nat.add_assoc] using c1, by simpa [Nat.add_assoc] using c2, by simpa [Nat.add_assoc] using c3, hb, hn⟩
    obtain ⟨f, hf⟩ := choose_lt each
    exact ⟨f, ⟨by simp, hf⟩, by simp⟩
end

theorem own : ownKnob Try.prog.godebug = none := by kernel_rfl
theorem laidOut : laidOutB Try.prog = true := by kernel_rfl

end Go.Proofs.Qxb6605814a
