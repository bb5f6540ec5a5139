import Derived.Test.Qxb6605804aBase
import Derived.Lib.Walk
import Derived.Lib.VarintMem
import Derived.Lib.Slices
import Derived.Lib.Zigzag
import Derived.Lib.OthersKept
import Derived.OwnWalk
namespace Go.Proofs.Qxb6605804a
open Go.RowKit

/-- What an appender leaves: the bytes cs stand behind what was there; below B, and in every block that is no row of bytes, nothing has turned. -/
def Appended (w : World) (B n : Nat) (xs : List Value) (cs : List UInt8) (e : Ending) (w' : World) : Prop :=
  ∃ v', e = .returned v' ∧ w'.ownsRow B 5 1 v' (n + cs.length) (xs ++ Lib.byteCells cs) ∧ Below B w w' ∧ Lib.OthersKept 5 none w w'

theorem owns_kind {w : World} {B : Nat} {e : TypeId} {size : Nat} {v : Value} {n : Nat} {xs : List Value} (h : w.ownsRow B e size v n xs) : ∀ g, v.ownBlock = some g → ∃ c fz, w.heap[g]? = some (.cells c e fz) := by
  intro g hg
  rcases h.2 with ⟨rfl, _⟩ | ⟨g', cap, cur, rfl, _, hgg, _⟩
  · simp [Value.ownBlock] at hg
  · simp [Value.ownBlock] at hg
    subst hg
    exact ⟨cur, _, hgg⟩

set_option maxHeartbeats 8000000 in
set_option maxRecDepth 100000 in
theorem appendUvarint_any (B n x : Nat) (hx : x < 18446744073709551616) (sv : Value) (xs : List Value) (w : World) (hown : w.ownsRow B 5 1 sv n xs) (hBw : B ≤ w.heap.size) (hlim : n + 10 ≤ 140737488355328) :
    Calls Try.prog 42 #[sv, .int .u64 x] w (Appended w B n xs (Lib.uvarint x)) := by
  obtain ⟨i0, hi, hz0, hz1, hz2⟩ := info_parts Try.info5
  have hlen := Lib.uvarint_length64 hx
  go_enter Try.func42, Try.ntmps42
  go_wp2
  go_loopw [0, 1] (fun vb vx wr => ∃ (y : Nat) (pre : List UInt8), vx = .int .u64 y ∧ y ≤ x ∧ Lib.uvarint x = pre ++ Lib.uvarint y ∧ wr.ownsRow B 5 1 vb (n + pre.length) (xs ++ Lib.byteCells pre) ∧ Below B w wr ∧ Lib.OthersKept 5 none w wr)
    (fun _ vx _ => (intOf vx).toNat)
  case atStart => exact ⟨x, [], rfl, Nat.le_refl _, rfl, by simpa [Lib.byteCells] using hown, Below.refl _ _, Lib.OthersKept.refl _ _ _⟩
  case round =>
    obtain ⟨y, pre, rfl, hy, hsplit, hown1, hnx, hok⟩ := hrel
    have hpl : pre.length + (Lib.uvarint y).length ≤ 10 := by
      have h2 := congrArg List.length hsplit
      rw [List.length_append] at h2
      omega
    have hyp := Lib.uvarint_pos y
    by_cases h128 : 128 ≤ y
    · have hor : bits .or .u8 ((y : Int) % 256) 128 = ((y % 128 + 128 : Nat) : Int) := by
        rw [Lib.u8_or128_any _ (by omega) (by omega)]
        omega
      go_wp2_with (at_builtin; refine wpList_append_own _ rfl _ _ 53 rfl B 5 i0 (.int .u8 0) 1 1 Try.underlying53 hi hz0 hz1 hz2 rfl (by decide) _ _ _ rfl (hown1.alloc _) ⟨wr.heap.size, 0, none⟩ 1 1 [Value.int .u8 ((y % 128 + 128 : Nat) : Int)] rfl rfl ?c1 ?c2 ?c3 ?c4 ?c5 ?_)
      case c1 =>
        intro j u hj
        match j, hj with
        | 0, hj => simp at hj; subst hj; simp [Addr.add]
      case c2 => intro u hu; simp at hu; subst hu; rfl
      case c3 => unfold maxLen; omega
      case c4 => omega
      case c5 => have := hnx.size; simp; omega
      intro v' w1 hown' hgrow _
      have hnx1 : Below B w w1 := (hnx.alloc (by have := hnx.size; omega) _).grown hgrow (by have := hnx.size; simp; omega) (fun k hk => (hown1.lt k hk).1)
      have hok1 : Lib.OthersKept 5 none w w1 := (hok.alloc _).grown hgrow (owns_kind (hown1.alloc _))
      go_wp2
      go_roundw
      case rel =>
        refine ⟨y / 128, pre ++ [(y % 128 + 128).toUInt8], by go_num, by omega, by rw [hsplit, Lib.uvarint_big h128]; simp, ?_, hnx1, hok1⟩
        have ec : ((y % 128 + 128 : Nat) : Int) = (y : Int) % 128 + 128 := by omega
        rw [Lib.byteCells_snoc pre (by omega), List.length_append, List.length_singleton, ← Nat.add_assoc, ec]
        exact hown'
      case measure => simp [intOf]; omega
    · have hsm : Lib.uvarint y = [y.toUInt8] := Lib.uvarint_small (by omega)
      go_wp2_with (at_builtin; refine wpList_append_own _ rfl _ _ 53 rfl B 5 i0 (.int .u8 0) 1 1 Try.underlying53 hi hz0 hz1 hz2 rfl (by decide) _ _ _ rfl (hown1.alloc _) ⟨wr.heap.size, 0, none⟩ 1 1 [Value.int .u8 (y : Int)] rfl rfl ?c1 ?c2 ?c3 ?c4 ?c5 ?_)
      case c1 =>
        intro j u hj
        match j, hj with
        | 0, hj => simp at hj; subst hj; simp [Addr.add]
      case c2 => intro u hu; simp at hu; subst hu; rfl
      case c3 => unfold maxLen; omega
      case c4 => omega
      case c5 => have := hnx.size; simp; omega
      intro v' w1 hown' hgrow _
      have hnx1 : Below B w w1 := (hnx.alloc (by have := hnx.size; omega) _).grown hgrow (by have := hnx.size; simp; omega) (fun k hk => (hown1.lt k hk).1)
      have hok1 : Lib.OthersKept 5 none w w1 := (hok.alloc _).grown hgrow (owns_kind (hown1.alloc _))
      go_wp2
      go_ret
      refine ⟨v', rfl, ?_, hnx1, hok1⟩
      rw [hsplit, hsm, Lib.byteCells_snoc pre (by omega), List.length_append, List.length_singleton, ← Nat.add_assoc]
      exact hown'

set_option maxHeartbeats 8000000 in
set_option maxRecDepth 100000 in
theorem appendVarint_any (B n : Nat) (x : Int) (h0 : -9223372036854775808 ≤ x) (h1 : x ≤ 9223372036854775807) (sv : Value) (xs : List Value) (w : World) (hown : w.ownsRow B 5 1 sv n xs) (hBw : B ≤ w.heap.size) (hlim : n + 10 ≤ 140737488355328) :
    Calls Try.prog 43 #[sv, .int .i64 x] w (Appended w B n xs (Lib.uvarint (Lib.zigzag x))) := by
  have hU := appendUvarint_any B n (Lib.zigzag x) (Lib.zigzag_lt h0 h1) sv xs w hown hBw hlim
  by_cases hneg : x < 0
  · rw [← Lib.zigzag_neg h0 hneg] at hU
    go_enter Try.func43, Try.ntmps43
    go_wp2_with (go_at_call 42; refine hU.mono ?_; rintro e w1 ⟨v', rfl, ho, hb⟩)
    go_wp2
    go_ret
    exact ⟨v', rfl, ho, hb⟩
  · rw [Lib.zigzag_nonneg (by omega)] at hU
    go_enter Try.func43, Try.ntmps43
    go_wp2_with (go_at_call 42; refine hU.mono ?_; rintro e w1 ⟨v', rfl, ho, hb⟩)
    go_wp2
    go_ret
    exact ⟨v', rfl, ho, hb⟩

end Go.Proofs.Qxb6605804a
