import Derived.Test.Qxb6605804aRows
import Derived.WalkKit
import Derived.Lib.SliceRun
namespace Go.Proofs.Qxb6605804a
open Go.RowKit

/-- What a slice that came in shows: it is nil, or its first cells are xs. -/
def Sees (w : World) (v : Value) (n : Nat) (xs : List Value) : Prop :=
  (v = .slice none 0 0 ∧ n = 0 ∧ xs = []) ∨ ∃ a c, v = .slice (some a) n c ∧ ∀ j u, xs[j]? = some u → w.cell? (a.add j) = some u

theorem Sees.of_owns {w : World} {base : Nat} {e : TypeId} {size : Nat} {v : Value} {n : Nat} {xs : List Value} (h : w.ownsRow base e size v n xs) : Sees w v n xs := by
  have h' := h
  rcases h'.2 with ⟨rfl, rfl⟩ | ⟨g, cap, cur, rfl, _⟩
  · exact .inl ⟨rfl, rfl, by have := h.1; simpa using this⟩
  · exact .inr ⟨_, _, rfl, h.cells rfl⟩

theorem ownsRow_lower {w : World} {b b' : Nat} {e : TypeId} {size : Nat} {v : Value} {n : Nat} {xs : List Value} (h : w.ownsRow b e size v n xs) (hb : b' ≤ b) : w.ownsRow b' e size v n xs := by
  refine ⟨h.1, ?_⟩
  rcases h.2 with h2 | ⟨g, cap, cur, hv, hg, r⟩
  · exact .inl h2
  · exact .inr ⟨g, cap, cur, hv, Nat.le_trans hb hg, r⟩

/-- What is owned below B stays owned while nothing below B turns. -/
theorem ownsRow_below {w w' : World} {B b : Nat} {e : TypeId} {size : Nat} {v : Value} {n : Nat} {xs : List Value} (h : w.ownsRow b e size v n xs) (hb : Below B w w') (hB : w.heap.size ≤ B) : w'.ownsRow b e size v n xs := by
  refine ⟨h.1, ?_⟩
  rcases h.2 with h2 | ⟨g, cap, cur, hv, hg, hh, r⟩
  · exact .inl h2
  · refine .inr ⟨g, cap, cur, hv, hg, ?_, r⟩
    rw [hb.block g (Nat.lt_of_lt_of_le (Array.getElem?_eq_some_iff.1 hh).1 hB)]
    exact hh

theorem below_of_grown {w w' : World} (h : w.grownBy w' none) : Below w.heap.size w w' :=
  ⟨h.os, h.tape, h.output, h.size, fun k hk => h.block k hk (by simp)⟩

theorem Sees.below {w w' : World} {v : Value} {n : Nat} {xs : List Value} (h : Sees w v n xs) (hb : Below w.heap.size w w') : Sees w' v n xs := by
  rcases h with h | ⟨a, c, rfl, hc⟩
  · exact .inl h
  · exact .inr ⟨a, c, rfl, fun j u hj => by
      have h1 := hc j u hj
      rw [hb.cell (World.block_lt_of_cell? w _ h1)]
      exact h1⟩

/-- A call that answers a bool and leaves the world as it was. (Under a name: the walk's own simp takes a bare '∃ r : Bool' apart.) -/
def Says (w : World) (p : Bool → Prop) (e : Ending) (w' : World) : Prop := ∃ r : Bool, e = .returned (.bool r) ∧ w = w' ∧ p r

/-- A call that answers a slice that owns its own new row, and leaves old memory as it was. -/
def Made (w : World) (t : TypeId) (size n : Nat) (xs : List Value) (e : Ending) (w' : World) : Prop :=
  ∃ v', e = .returned v' ∧ w'.ownsRow w.heap.size t size v' n xs ∧ Below w.heap.size w w'

def Small3 (n0 n1 n2 : Nat) (r : Bool) : Prop := r = true → n0 + n1 + n2 ≤ 1048576
def NotBig3 (n0 n1 n2 : Nat) (r : Bool) : Prop := r = false → n0 ≤ 131072 ∧ n1 ≤ 32768 ∧ n2 ≤ 1048576
def Within (i : Int) (n : Nat) (r : Bool) : Prop := r = true → 0 ≤ i ∧ i < (n : Int)

section
variable {P : Program}

theorem run_copy_rows (w : World) (dT sT ty elem : TypeId) (i : TypeInfo) (g dLen dCap : Nat) (a : Addr) (sLen sCap : Nat) (cur : Array Value) (t : TypeId) (cs : List Value)
    (hu : P.underlying dT = some (.slice elem)) (hi : P.info? elem = some i)
    (hg : w.heap[g]? = some (.cells cur t (0, 0))) (hn : cs.length = Nat.min sLen dLen * i.size)
    (hsrc : ∀ j v, cs[j]? = some v → w.cell? (a.add j) = some v) (hfit : cs.length ≤ cur.size) (h1 : ∀ v ∈ cs, v.oneCell' = true) :
    (Builtin.copy_ #[dT, sT] ty #[.slice (some ⟨g, 0, none⟩) dLen dCap, .slice (some a) sLen sCap]).run P w =
      .ok (goInt (Nat.min sLen dLen)) (w.setRow g (cs ++ cur.toList.drop cs.length).toArray) := by
  have hl := run_firstCells_some (P := P) w i.size (Nat.min sLen dLen) a sLen sCap cs hn hsrc
  have hst := run_storeCells_at P g 0 t cs 0 cur w hg (by simpa using hfit) h1
  simp only [Nat.add_zero, Nat.zero_add, List.take_zero, List.nil_append] at hst
  simp [Builtin.copy_, run_underlying hu, Builtin.lenOf, sizeOf, typeInfo, hi, hl, hst]

/-- 'copy(out, src)' where out is a row that the call itself made, as long as src. -/
theorem run_copy_own (w : World) (dT sT ty elem : TypeId) (i : TypeInfo) (size : Nat) (hu : P.underlying dT = some (.slice elem)) (hi : P.info? elem = some i) (hsz : i.size = size)
    (base g n cap : Nat) (ad : Addr) (c : Nat) (xs : List Value)
    (hown : w.ownsRow base elem size (.slice (some ⟨g, 0, none⟩) n cap) n xs) (cs : List Value) (hn : cs.length = n * size)
    (hsrc : ∀ j v, cs[j]? = some v → w.cell? (ad.add j) = some v) (h1 : ∀ v ∈ cs, v.oneCell' = true) :
    ∃ w', (Builtin.copy_ #[dT, sT] ty #[.slice (some ⟨g, 0, none⟩) n cap, .slice (some ad) n c]).run P w = .ok (goInt n) w' ∧
      w'.ownsRow base elem size (.slice (some ⟨g, 0, none⟩) n cap) n cs ∧ w.grownBy w' (some g) := by
  subst hsz
  rcases hown.2 with ⟨h', _⟩ | ⟨g', cap', cur, h', hbg, hg, hnc, hcm, hcs, htake⟩
  · simp at h'
  · simp only [Value.slice.injEq, Option.some.injEq, Addr.mk.injEq, and_true, true_and] at h'
    obtain ⟨rfl, rfl⟩ := h'
    have hfit : cs.length ≤ cur.size := by rw [hn, hcs]; exact Nat.mul_le_mul_right _ hnc
    have hrun := run_copy_rows (P := P) w dT sT ty elem i g n cap ad n c cur elem cs hu hi hg (by simpa using hn) hsrc hfit h1
    simp only [Nat.min_self] at hrun
    refine ⟨_, hrun, ⟨hn, .inr ⟨g, cap, _, rfl, hbg, setRow_heap w g cur _ elem _ hg, hnc, hcm, ?_, ?_⟩⟩, ⟨rfl, rfl, rfl, by simp, fun k _ hk => setRow_other w g k _ (fun e => hk (by simp [e]))⟩⟩
    · simp only [List.size_toArray, List.length_append, List.length_drop, Array.length_toList]
      omega
    · rw [← hn]
      exact List.take_left
end

theorem Try.info3 : (Try.prog.info? 3).map (fun i => (i.zero, i.size, i.bytes)) = some (some (.int .i64 0), 1, 8) := by kernel_rfl
theorem Try.info5 : (Try.prog.info? 5).map (fun i => (i.zero, i.size, i.bytes)) = some (some (.int .u8 0), 1, 1) := by kernel_rfl
theorem Try.info70 : (Try.prog.info? 70).map (fun i => (i.zero, i.size, i.bytes)) = some (some (.agg #[.int .i64 0, .int .i64 0, .int .i64 0]), 3, 24) := by kernel_rfl
theorem Try.info73 : (Try.prog.info? 73).map (fun i => (i.zero, i.size, i.bytes)) = some (some (.agg #[.int .i64 0, .int .i64 0, .int .i64 0]), 3, 24) := by kernel_rfl

end Go.Proofs.Qxb6605804a
