import Derived.Test.Qxb6605804aVarint
import Derived.Test.Qxb6605804aToRaises
import Derived.Deep.QuietTactic
import Derived.BigQuiet
namespace Go.Proofs.Qxb6605804a
open Go.RowKit

/-- A new oracle: its slices in its fields. -/
def NewO (w : World) (vs vr : Value) (e : Ending) (w' : World) : Prop :=
  e = .returned (.pointer (some ⟨w.heap.size, 0, none⟩)) ∧ w'.cell? ⟨w.heap.size, 6, none⟩ = some vs ∧ w'.cell? ⟨w.heap.size, 11, none⟩ = some vr ∧ Below w.heap.size w w' ∧ w'.heap.size = w.heap.size + 1

theorem newOracle_any (a0 a1 : Option Addr) (n0 c0 n1 c1 : Nat) (w : World) :
    Calls Try.prog 29 #[.slice a0 n0 c0, .slice a1 n1 c1] w (NewO w (.slice a0 n0 c0) (.slice a1 n1 c1)) := by
  go_enter Try.func29, Try.ntmps29
  go_wp2
  go_ret
  refine ⟨rfl, ?_, ?_, (Below.refl _ _).alloc (Nat.le_refl _) _, by simp⟩
  · exact (World.cell?_alloc_new _ _ _ _).trans rfl
  · exact (World.cell?_alloc_new _ _ _ _).trans rfl

/-- A uint64 out of an int. -/
def u64 (x : Int) : Nat := (x % 18446744073709551616).toNat

/-- What the code of process i says of one raise. -/
def one (S steps i : Int) (r : Int × Int × Int) : List UInt8 :=
  if r.2.1 = i ∧ S < r.2.2 then 1 :: (Lib.uvarint (Lib.zigzag (wrap64 (r.1 - steps))) ++ Lib.uvarint (u64 r.2.2)) else []

/-- The code of process i. -/
def code (S steps i : Int) (R : List (Int × Int × Int)) : List UInt8 :=
  Lib.uvarint (u64 S) ++ R.flatMap (one S steps i) ++ [0]

def rcells (R : List (Int × Int × Int)) : List Value := R.flatMap fun r => [.int .i64 r.1, .int .i64 r.2.1, .int .i64 r.2.2]

/-- What appendProcessCode leaves. -/
def Coded (w : World) (B n : Nat) (xs : List Value) (cs : List UInt8) (e : Ending) (w' : World) : Prop :=
  ∃ v', e = .returned v' ∧ w'.ownsRow B 5 1 v' (n + cs.length) (xs ++ Lib.byteCells cs) ∧ Below B w w'

theorem wrap_u64_nat (x : Int) : IntKind.u64.wrap x = ((u64 x : Nat) : Int) := by
  rw [IntKind.wrap_u64]; unfold u64; omega
theorem u64_lt (x : Int) : u64 x < 18446744073709551616 := by unfold u64; omega

theorem appendU_wrap (B n : Nat) (x : Int) (sv : Value) (xs : List Value) (w : World) (hown : w.ownsRow B 5 1 sv n xs) (hBw : B ≤ w.heap.size) (hlim : n + 10 ≤ 140737488355328) :
    Calls Try.prog 42 #[sv, .int .u64 (IntKind.u64.wrap x)] w (Appended w B n xs (Lib.uvarint (u64 x))) := by
  rw [wrap_u64_nat]
  exact appendUvarint_any B n (u64 x) (u64_lt x) sv xs w hown hBw hlim

theorem appendV_wrap (B n : Nat) (x : Int) (sv : Value) (xs : List Value) (w : World) (hown : w.ownsRow B 5 1 sv n xs) (hBw : B ≤ w.heap.size) (hlim : n + 10 ≤ 140737488355328) :
    Calls Try.prog 43 #[sv, .int .i64 (wrap64 x)] w (Appended w B n xs (Lib.uvarint (Lib.zigzag (wrap64 x)))) :=
  appendVarint_any B n (wrap64 x) (by unfold wrap64; omega) (by unfold wrap64; omega) sv xs w hown hBw hlim

theorem one_length (S steps i : Int) (r : Int × Int × Int) : (one S steps i r).length ≤ 21 := by
  unfold one
  split
  · have h1 := Lib.uvarint_length64 (Lib.zigzag_lt (x := wrap64 (r.1 - steps)) (by unfold wrap64; omega) (by unfold wrap64; omega))
    have h2 := Lib.uvarint_length64 (u64_lt r.2.2)
    simp
    omega
  · simp

theorem flat_length (S steps i : Int) (R : List (Int × Int × Int)) : (R.flatMap (one S steps i)).length ≤ 21 * R.length := by
  induction R with
  | nil => simp
  | cons r R ih =>
    have := one_length S steps i r
    simp only [List.flatMap_cons, List.length_append, List.length_cons]
    omega

/-- What stands behind b when k raises are done. -/
def pre (S steps i : Int) (R : List (Int × Int × Int)) (k : Nat) : List UInt8 := Lib.uvarint (u64 S) ++ (R.take k).flatMap (one S steps i)

theorem pre_length (S steps i : Int) (R : List (Int × Int × Int)) (k : Nat) : (pre S steps i R k).length ≤ 10 + 21 * R.length := by
  have h1 := Lib.uvarint_length64 (u64_lt S)
  have h2 := flat_length S steps i (R.take k)
  have h3 : (R.take k).length ≤ R.length := List.length_take_le' k R
  unfold pre
  simp only [List.length_append]
  omega

theorem pre_succ (S steps i : Int) (R : List (Int × Int × Int)) (k : Nat) (r : Int × Int × Int) (h : R[k]? = some r) : pre S steps i R (k + 1) = pre S steps i R k ++ one S steps i r := by
  obtain ⟨hl, rfl⟩ := List.getElem?_eq_some_iff.1 h
  unfold pre
  rw [List.take_succ_eq_append_getElem hl, List.flatMap_append]
  simp

theorem owns_drewN {w : World} {B : Nat} {e : TypeId} {size : Nat} {v : Value} {n : Nat} {xs : List Value} (h : w.ownsRow B e size v n xs) (m : Nat) : (w.drewN m).ownsRow B e size v n xs := h
theorem below_drewN {B : Nat} {a w : World} (h : Below B a w) (m : Nat) : Below B a (w.drewN m) := ⟨h.os, h.tape, h.output, h.size, h.block⟩

theorem byteCells_one (b : Nat) (h : b < 256) : Lib.byteCells [b.toUInt8] = [Value.int .u8 (b : Int)] := by
  have := Lib.byteCells_snoc [] (a := b) h
  simpa [Lib.byteCells] using this

theorem row_kept {B : Nat} {wr w2 : World} {u : Value} {N nq : Nat} {X : List Value} {rb : Array Value} {t : TypeId} {o : Obj} (h : wr.ownsRow B 5 1 u N X) (hg : (((wr.alloc (.cells rb t)).drewN nq).alloc o).grownBy w2 u.ownBlock) :
    w2.heap[wr.heap.size]? = some (.cells rb t (0, 0)) := by
  rw [hg.block wr.heap.size (by simp; omega) ?_]
  · rw [Below.heap_alloc _ _ _ (by simp)]
    exact heap_alloc_new wr _
  · intro hk
    have := (h.lt _ hk.symm).2
    omega

theorem own_close {S steps : Int} {i n : Nat} {R : List (Int × Int × Int)} {k : Nat} {s t : Int} {xs : List Value} {w4 : World} {B : Nat} {v4 : Value}
    (hp : pre S steps i R (k + 1) = pre S steps i R k ++ one S steps i (s, (i : Int), t)) (ht : S < t)
    (h : w4.ownsRow B 5 1 v4 (n + (pre S steps i R k).length + 1 + (Lib.uvarint (Lib.zigzag (wrap64 (s - steps)))).length + (Lib.uvarint (u64 t)).length)
      (xs ++ (Lib.byteCells (pre S steps i R k) ++ [Value.int .u8 1]) ++ Lib.byteCells (Lib.uvarint (Lib.zigzag (wrap64 (s - steps)))) ++ Lib.byteCells (Lib.uvarint (u64 t)))) :
    w4.ownsRow B 5 1 v4 (n + (pre S steps i R (k + 1)).length) (xs ++ Lib.byteCells (pre S steps i R (k + 1))) := by
  have e1 : one S steps i (s, (i : Int), t) = 1 :: (Lib.uvarint (Lib.zigzag (wrap64 (s - steps))) ++ Lib.uvarint (u64 t)) := by
    unfold one; rw [if_pos ⟨rfl, ht⟩]
  have e2 : Lib.byteCells (pre S steps i R (k + 1)) = Lib.byteCells (pre S steps i R k) ++ [Value.int .u8 1] ++ Lib.byteCells (Lib.uvarint (Lib.zigzag (wrap64 (s - steps)))) ++ Lib.byteCells (Lib.uvarint (u64 t)) := by
    rw [hp, e1]; simp [Lib.byteCells]
  have e3 : n + (pre S steps i R (k + 1)).length = n + (pre S steps i R k).length + 1 + (Lib.uvarint (Lib.zigzag (wrap64 (s - steps)))).length + (Lib.uvarint (u64 t)).length := by
    rw [hp, e1]; simp only [List.length_append, List.length_cons]; omega
  rw [e2, e3]
  simpa only [List.append_assoc] using h

theorem own_end {S steps : Int} {i n : Nat} {R : List (Int × Int × Int)} {k : Nat} {xs : List Value} {w4 : World} {B : Nat} {v4 : Value} (hk : R.length = k)
    (h : w4.ownsRow B 5 1 v4 (n + (pre S steps i R k).length + 1) (xs ++ (Lib.byteCells (pre S steps i R k) ++ [Value.int .u8 0]))) :
    w4.ownsRow B 5 1 v4 (n + (code S steps i R).length) (xs ++ Lib.byteCells (code S steps i R)) := by
  have e1 : code S steps i R = pre S steps i R k ++ [0] := by
    unfold code pre; rw [← hk, List.take_length]
  have e2 : Lib.byteCells (code S steps i R) = Lib.byteCells (pre S steps i R k) ++ [Value.int .u8 0] := by
    rw [e1]; simp [Lib.byteCells]
  have e3 : n + (code S steps i R).length = n + (pre S steps i R k).length + 1 := by
    rw [e1]; simp only [List.length_append, List.length_cons, List.length_nil]; omega
  rw [e2, e3]
  exact h

set_option maxHeartbeats 1600000 in
set_option maxRecDepth 100000 in
theorem code_any (B G gs cs : Nat) (ar : Option Addr) (cr : Nat) (sv : Value) (ns nr n i : Nat) (S steps : Int) (R : List (Int × Int × Int)) (xs : List Value) (w : World)
    (hG : G < B) (hgs : gs < B) (hB : B ≤ w.heap.size)
    (c6 : w.cell? ⟨G, 6, none⟩ = some (.slice (some ⟨gs, 0, none⟩) ns cs)) (c11 : w.cell? ⟨G, 11, none⟩ = some (.slice ar nr cr))
    (hi : i < ns) (cS : w.cell? ⟨gs, i, none⟩ = some (.int .i64 S))
    (hR : R.length = nr) (hr : ∀ k r, R[k]? = some r → ∃ gr, ar = some ⟨gr, 0, none⟩ ∧ gr < B ∧ w.cell? ⟨gr, k * 3, none⟩ = some (.int .i64 r.1) ∧ w.cell? ⟨gr, k * 3 + 1, none⟩ = some (.int .i64 r.2.1) ∧ w.cell? ⟨gr, k * 3 + 2, none⟩ = some (.int .i64 r.2.2))
    (hnr : nr ≤ 32768) (hn : n ≤ 1048576) (hown : w.ownsRow B 5 1 sv n xs) :
    Calls Try.prog 38 #[.pointer (some ⟨G, 0, none⟩), sv, .int .i64 steps, .int .i64 i] w (Coded w B n xs (code S steps i R)) := by
  have hi0 : (0 : Int) ≤ (i : Int) := Int.natCast_nonneg _
  have hi1 : (i : Int) < (ns : Int) := by omega
  have hn10 : n + 10 ≤ 140737488355328 := by omega
  have HR : Hid (R.length = nr) := hR
  have HR2 := hr
  clear hR hr
  obtain ⟨i0, hif, hz0, hz1, hz2⟩ := info_parts Try.info5
  go_enter Try.func38, Try.ntmps38
  go_wp2_with (go_at_call 42; refine (appendU_wrap B n S sv xs w hown hB hn10).mono ?_; rintro e w1 ⟨v1, rfl, hown1, hb1, hk1⟩; have c11' := (hb1.cell (p := ⟨G, 11, none⟩) hG).trans c11; clear hk1)
  go_loopw [1, 26] (fun vb ix wr => ∃ k : Nat, ix = .int .i64 k ∧ k ≤ nr ∧ wr.ownsRow B 5 1 vb (n + (pre S steps i R k).length) (xs ++ Lib.byteCells (pre S steps i R k)) ∧ Below B w wr) (fun _ ix _ => nr - (intOf ix).toNat)
  case atStart => exact ⟨0, rfl, Nat.zero_le _, by simpa [pre] using hown1, hb1⟩
  case round =>
    clear hown1 hb1 c11'
    obtain ⟨k, rfl, hk, hownr, hbr⟩ := hrel
    have hszB : B ≤ wr.heap.size := by have := hbr.size; omega
    have hpl := pre_length S steps i R k
    rw [HR.out] at hpl
    by_cases hlt : k < nr
    · obtain ⟨⟨s, p, t⟩, hrk⟩ : ∃ r, R[k]? = some r := ⟨_, List.getElem?_eq_getElem (by rw [HR.out]; exact hlt)⟩
      obtain ⟨gr, rfl, hgrB, d0, d1, d2⟩ := HR2 k _ hrk
      clear HR2
      rw [← hbr.cell (p := ⟨gr, k * 3, none⟩) hgrB] at d0
      rw [← hbr.cell (p := ⟨gr, k * 3 + 1, none⟩) hgrB] at d1
      rw [← hbr.cell (p := ⟨gr, k * 3 + 2, none⟩) hgrB] at d2
      have c6r := (hbr.cell (p := ⟨G, 6, none⟩) hG).trans c6
      have cSr := (hbr.cell (p := ⟨gs, i, none⟩) hgs).trans cS
      have HP := pre_succ S steps i R k _ hrk
      have HP2 : Hid (pre S steps i R (k + 1) = pre S steps i R k ++ one S steps i (s, p, t)) := HP
      clear HP hrk
      have hk0 : (0 : Int) ≤ (k : Int) := Int.natCast_nonneg _
      have hk1 : (k : Int) < (nr : Int) := by omega
      have lG : G < wr.heap.size := by omega
      have lgs : gs < wr.heap.size := by omega
      have hzl := Lib.uvarint_length64 (Lib.zigzag_lt (x := wrap64 (s - steps)) (by unfold wrap64; omega) (by unfold wrap64; omega))
      by_cases hp : p = (i : Int)
      · subst hp
        by_cases hts : S < t
        · go_wp2_with fail
          go_quiet (fail)
          go_wp2_with (at_builtin; refine wpList_append_own _ rfl _ _ 53 rfl B 5 i0 (.int .u8 0) 1 1 Try.underlying53 hif hz0 hz1 hz2 rfl (by decide) _ _ _ rfl (owns_drewN ((hownr.alloc _).alloc _) _) ⟨wr.heap.size + 1, 0, none⟩ 1 1 [Value.int .u8 1] rfl rfl ?c1 ?c2 ?c3 ?c4 ?c5 ?_)
          case c1 =>
            intro j u hj
            match j, hj with
            | 0, hj => simp at hj; subst hj; rw [Addr.add_lit]; exact (World.cell?_alloc_at _ _ _ _ (by simp)).trans rfl
          case c2 => intro u hu; simp at hu; subst hu; rfl
          case c3 => unfold maxLen; omega
          case c4 => omega
          case c5 => simp; omega
          intro v2 w2 hown2 hgrow2 _
          have hrow2 := row_kept hownr hgrow2
          have hbb2 : Below B w w2 := ((below_drewN (hbr.alloc hszB _) _).alloc (by simp; omega) _).grown hgrow2 (by simp; omega) (fun j hj => (hownr.lt j hj).1)
          have e20 : w2.cell? ⟨wr.heap.size, 0, none⟩ = some (.int .i64 s) := (cell_of_row _ _ _ _ _ _ hrow2).trans rfl
          have hs2 : B ≤ w2.heap.size := by have := hbb2.size; omega
          have HO : Hid (w2.heap[wr.heap.size]? = some (.cells #[.int .i64 s, .int .i64 (i : Int), .int .i64 t] 73 (0, 0))) := hrow2
          clear hgrow2 hrow2 d0 d1 d2 c6r cSr c6 c11 cS
          go_wp2_with (go_at_call 43; refine (appendV_wrap B _ _ v2 _ w2 hown2 hs2 (by omega)).mono ?_; rintro e w3 ⟨v3, rfl, hown3, hb3, hk3⟩; have e32 : w3.cell? ⟨wr.heap.size, 2, none⟩ = some (.int .i64 t) := (cell_of_row _ _ _ _ _ _ (hk3 _ _ HO.out (by simp) (by simp))).trans rfl)
          have hb3' := hbb2.trans hb3
          have hs3 : B ≤ w3.heap.size := by have := hb3'.size; omega
          clear hk3 hown2 e20 HO
          go_wp2_with (go_at_call 42; refine (appendU_wrap B _ _ v3 _ w3 hown3 hs3 (by omega)).mono ?_; rintro e w4 ⟨v4, rfl, hown4, hb4, hk4⟩)
          have hb4' := hb3'.trans hb4
          have R4 := own_close (S := S) (steps := steps) HP2.out hts hown4
          clear hown4 hown3 hb3 hb4 hk4
          go_wp2
          go_roundw
          case rel => exact ⟨k + 1, by go_num, by omega, R4, hb4'⟩
          case measure => simp [intOf]; omega
        · go_wp2_with fail
          go_quiet (fail)
          go_wp2
          go_roundw
          case rel => exact ⟨k + 1, by go_num, by omega, by rw [HP2.out, one, if_neg (by simp; omega), List.append_nil]; exact owns_drewN (hownr.alloc _) _, below_drewN (hbr.alloc hszB _) _⟩
          case measure => simp [intOf]; omega
      · have hd : (p != (i : Int)) = true := by simpa using hp
        go_wp2_with fail
        go_quiet (fail)
        go_wp2
        go_roundw
        case rel => exact ⟨k + 1, by go_num, by omega, by rw [HP2.out, one, if_neg (by simp [hp]), List.append_nil]; exact owns_drewN (hownr.alloc _) _, below_drewN (hbr.alloc hszB _) _⟩
        case measure => simp [intOf]; omega
    · obtain rfl : k = nr := by omega
      go_wp2_with (at_builtin; refine wpList_append_own _ rfl _ _ 53 rfl B 5 i0 (.int .u8 0) 1 1 Try.underlying53 hif hz0 hz1 hz2 rfl (by decide) _ _ _ rfl (hownr.alloc _) ⟨wr.heap.size, 0, none⟩ 1 1 [Value.int .u8 0] rfl rfl ?c1 ?c2 ?c3 ?c4 ?c5 ?_)
      case c1 =>
        intro j u hj
        match j, hj with
        | 0, hj => simp at hj; subst hj; simp [Addr.add]
      case c2 => intro u hu; simp at hu; subst hu; rfl
      case c3 => unfold maxLen; omega
      case c4 => omega
      case c5 => simp; omega
      intro v2 w2 hown2 hgrow2 _
      have hbb2 : Below B w w2 := (hbr.alloc hszB _).grown hgrow2 (by simp; omega) (fun j hj => (hownr.lt j hj).1)
      clear hgrow2 c6 c11 cS
      go_wp2
      go_ret
      exact ⟨v2, rfl, own_end HR.out hown2, hbb2⟩

end Go.Proofs.Qxb6605804a
