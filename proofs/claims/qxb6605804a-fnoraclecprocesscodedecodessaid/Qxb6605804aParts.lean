import Derived.Test.Qxb6605804aCode
import Derived.Test.Qxb6605804aPrefix
import Derived.Test.Qxb6605804aLeaf
namespace Go.Proofs.Qxb6605804a
open Go.RowKit

theorem rcells_length (R : List (Int × Int × Int)) : (rcells R).length = R.length * 3 := by
  induction R with
  | nil => rfl
  | cons r R ih => simp only [rcells, List.flatMap_cons, List.length_append, List.length_cons, List.length_nil] at ih ⊢; omega

theorem rcells_get : ∀ (R : List (Int × Int × Int)) (k : Nat) (r : Int × Int × Int), R[k]? = some r →
    (rcells R)[k * 3]? = some (.int .i64 r.1) ∧ (rcells R)[k * 3 + 1]? = some (.int .i64 r.2.1) ∧ (rcells R)[k * 3 + 2]? = some (.int .i64 r.2.2)
  | [], k, r, h => by simp at h
  | x :: R, 0, r, h => by
    simp at h
    subst h
    simp [rcells]
  | x :: R, k + 1, r, h => by
    have ih := rcells_get R k r (by simpa using h)
    have e : rcells (x :: R) = [.int .i64 x.1, .int .i64 x.2.1, .int .i64 x.2.2] ++ rcells R := by simp [rcells]
    rw [e, List.getElem?_append_right (by simp; omega), List.getElem?_append_right (by simp; omega), List.getElem?_append_right (by simp; omega)]
    simp only [List.length_cons, List.length_nil]
    rw [show (k + 1) * 3 - (0 + 1 + 1 + 1) = k * 3 by omega, show (k + 1) * 3 + 1 - (0 + 1 + 1 + 1) = k * 3 + 1 by omega, show (k + 1) * 3 + 2 - (0 + 1 + 1 + 1) = k * 3 + 2 by omega]
    exact ih

theorem rcells_append (R R' : List (Int × Int × Int)) : rcells (R ++ R') = rcells R ++ rcells R' := by simp [rcells]

theorem rcells_triples (R : List (Int × Int × Int)) : Triples R.length (rcells R) := fun j hj => by
  obtain ⟨h0, h1, h2⟩ := rcells_get R j _ (List.getElem?_eq_getElem hj)
  exact ⟨_, _, _, h0, h1, h2⟩

theorem rcells_oneCell (R : List (Int × Int × Int)) : ∀ u ∈ rcells R, u.oneCell' = true := by
  intro u hu
  obtain ⟨r, _, h⟩ := List.mem_flatMap.1 hu
  simp at h
  rcases h with rfl | rfl | rfl <;> rfl

/-- The raises of process i alone, renumbered 0. -/
def ownOf (i : Int) (R : List (Int × Int × Int)) : List (Int × Int × Int) := R.flatMap fun r => if r.2.1 = i then [(r.1, 0, r.2.2)] else []

theorem ownOf_length (i : Int) (R : List (Int × Int × Int)) : (ownOf i R).length ≤ R.length := by
  induction R with
  | nil => simp [ownOf]
  | cons r R ih =>
    unfold ownOf at ih ⊢
    simp only [List.flatMap_cons, List.length_append, List.length_cons]
    split <;> simp only [List.length_cons, List.length_nil] <;> omega

theorem ownOf_flat (S steps i : Int) (R : List (Int × Int × Int)) : (ownOf i R).flatMap (one S steps 0) = R.flatMap (one S steps i) := by
  induction R with
  | nil => rfl
  | cons r R ih =>
    have e : ownOf i (r :: R) = (if r.2.1 = i then [(r.1, 0, r.2.2)] else []) ++ ownOf i R := by simp [ownOf]
    rw [e, List.flatMap_append, ih, List.flatMap_cons]
    congr 1
    by_cases h : r.2.1 = i
    · rw [if_pos h]; simp [one, h]
    · rw [if_neg h]; simp [one, h]

/-- THE PLAIN LAW: the code of process i is the code of process 0 of its own raises. -/
theorem code_own (S steps i : Int) (R : List (Int × Int × Int)) : code S steps 0 (ownOf i R) = code S steps i R := by
  unfold code; rw [ownOf_flat]

theorem code_length (S steps i : Int) (R : List (Int × Int × Int)) : 2 ≤ (code S steps i R).length ∧ (code S steps i R).length ≤ 11 + 21 * R.length := by
  have h0 := Lib.uvarint_pos (u64 S)
  have h1 := Lib.uvarint_length64 (u64_lt S)
  have h2 := flat_length S steps i R
  unfold code
  simp only [List.length_append, List.length_cons, List.length_nil]
  omega

theorem owns_form {w : World} {B : Nat} {e : TypeId} {size : Nat} {v : Value} {n : Nat} {xs : List Value} (h : w.ownsRow B e size v n xs) :
    ∃ ao c, v = .slice ao n c ∧ (∀ a, ao = some a → ∃ g, a = ⟨g, 0, none⟩ ∧ v.ownBlock = some g) ∧ (ao = none → n = 0) := by
  rcases h.2 with ⟨rfl, rfl⟩ | ⟨g, cap, cur, rfl, _⟩
  · exact ⟨none, 0, rfl, by simp, fun _ => rfl⟩
  · exact ⟨_, _, rfl, fun a ha => ⟨g, (Option.some.inj ha).symm, rfl⟩, by simp⟩

theorem owns_at {w : World} {B : Nat} {e : TypeId} {size : Nat} {v : Value} {n : Nat} {xs : List Value} (h : w.ownsRow B e size v n xs) (hn : 0 < n) :
    ∃ g c, v = .slice (some ⟨g, 0, none⟩) n c ∧ B ≤ g ∧ g < w.heap.size ∧ ∀ j, j < n * size → w.cell? ⟨g, j, none⟩ = xs[j]? := by
  have h' := h
  rcases h'.2 with ⟨rfl, rfl⟩ | ⟨g, cap, cur, rfl, hb, hg, _⟩
  · omega
  · exact ⟨g, cap, rfl, hb, (Array.getElem?_eq_some_iff.1 hg).1, h.cellAt⟩

set_option maxHeartbeats 400000 in
theorem code31 (B G b1 b2 : Nat) (vs vr sv : Value) (ns nr n i : Nat) (ix steps : Int) (zs : List Int) (R : List (Int × Int × Int)) (xs : List Value) (w : World)
    (hix : ix = (i : Int)) (hG : G < B) (hB : B ≤ w.heap.size) (hs : w.ownsRow b1 3 1 vs ns (zs.map (Value.int .i64))) (hr : w.ownsRow b2 73 3 vr nr (rcells R))
    (hsB : ∀ k, vs.ownBlock = some k → k < B) (hrB : ∀ k, vr.ownBlock = some k → k < B)
    (c6 : w.cell? ⟨G, 6, none⟩ = some vs) (c11 : w.cell? ⟨G, 11, none⟩ = some vr) (hi : i < ns) (hnr : nr ≤ 32768) (hn : n ≤ 1048576) (hown : w.ownsRow B 5 1 sv n xs) :
    Calls Try.prog 31 #[.pointer (some ⟨G, 0, none⟩), sv, .int .i64 steps, .int .i64 ix] w (Coded w B n xs (code (zs.getD i 0) steps i R)) := by
  subst hix
  have hzl : zs.length = ns := by have := hs.1; simpa using this
  have hRl : R.length = nr := by have := hr.1; rw [rcells_length] at this; omega
  obtain ⟨gs, cs, rfl, _, _, hcs⟩ := owns_at hs (by omega)
  obtain ⟨ar, cr, rfl, hf, hnil⟩ := owns_form hr
  have cS : w.cell? ⟨gs, i, none⟩ = some (.int .i64 (zs.getD i 0)) := by
    rw [hcs i (by omega)]
    simp [List.getD, show i < zs.length by omega]
  have hrr : ∀ k r, R[k]? = some r → ∃ gr, ar = some ⟨gr, 0, none⟩ ∧ gr < B ∧ w.cell? ⟨gr, k * 3, none⟩ = some (.int .i64 r.1) ∧ w.cell? ⟨gr, k * 3 + 1, none⟩ = some (.int .i64 r.2.1) ∧ w.cell? ⟨gr, k * 3 + 2, none⟩ = some (.int .i64 r.2.2) := by
    intro k r hk
    have hkl : k < R.length := (List.getElem?_eq_some_iff.1 hk).1
    cases ar with
    | none => have := hnil rfl; omega
    | some a =>
      obtain ⟨g, rfl, hg⟩ := hf a rfl
      obtain ⟨h0, h1, h2⟩ := rcells_get R k r hk
      exact ⟨g, rfl, hrB g hg, (hr.cellAt _ (by omega)).trans h0, (hr.cellAt _ (by omega)).trans h1, (hr.cellAt _ (by omega)).trans h2⟩
  have hc := code_any B G gs cs ar cr sv ns nr n i (zs.getD i 0) steps R xs w hG (hsB gs rfl) hB c6 c11 hi cS hRl hrr hnr hn hown
  clear hrr hf hnil hcs hs hr hsB hrB c6 c11 cS hown
  go_enter Try.func31, Try.ntmps31
  go_wp2_with (go_at_call 38; refine hc.mono ?_; rintro e w' ⟨v', rfl, hv⟩)
  go_wp2
  go_ret
  exact ⟨v', rfl, hv⟩

end Go.Proofs.Qxb6605804a
