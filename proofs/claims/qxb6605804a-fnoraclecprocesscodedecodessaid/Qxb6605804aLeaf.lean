import Derived.Test.Qxb6605804aBase
namespace Go.Proofs.Qxb6605804a
open Go.RowKit

set_option maxHeartbeats 400000 in
theorem bytes35_any (a0 a1 a2 : Option Addr) (n0 c0 n1 c1 n2 c2 : Nat) (s i : Int) (w : World) :
    Calls Try.prog 35 #[.slice a0 n0 c0, .slice a1 n1 c1, .slice a2 n2 c2, .int .i64 s, .int .i64 i] w (Says w (Small3 n0 n1 n2)) := by
  by_cases h0 : n0 ≤ 1048576
  · by_cases h1 : n1 ≤ 1048576
    · by_cases h01 : n0 + n1 ≤ 1048576
      · by_cases h2 : n2 ≤ 1048576
        · by_cases h3 : n0 + n1 + n2 ≤ 1048576
          · go_enter Try.func35, Try.ntmps35
            go_wp2
            go_ret
            exact ⟨true, rfl, rfl, fun _ => h3⟩
          · go_enter Try.func35, Try.ntmps35
            go_wp2
            go_ret
            exact ⟨false, rfl, rfl, fun h => by cases h⟩
        · go_enter Try.func35, Try.ntmps35
          go_wp2
          go_ret
          exact ⟨false, rfl, rfl, fun h => by cases h⟩
      · go_enter Try.func35, Try.ntmps35
        go_wp2
        go_ret
        exact ⟨false, rfl, rfl, fun h => by cases h⟩
    · go_enter Try.func35, Try.ntmps35
      go_wp2
      go_ret
      exact ⟨false, rfl, rfl, fun h => by cases h⟩
  · go_enter Try.func35, Try.ntmps35
    go_wp2
    go_ret
    exact ⟨false, rfl, rfl, fun h => by cases h⟩

set_option maxHeartbeats 400000 in
theorem tooBig_any (a0 a1 a2 : Option Addr) (n0 c0 n1 c1 n2 c2 : Nat) (w : World) (hs : n0 + n1 + n2 ≤ 1048576) :
    Calls Try.prog 24 #[.slice a0 n0 c0, .slice a1 n1 c1, .slice a2 n2 c2] w (Says w (NotBig3 n0 n1 n2)) := by
  by_cases h0 : n0 ≤ 131072
  · by_cases h1 : n1 ≤ 32768
    · go_enter Try.func24, Try.ntmps24
      go_wp2
      go_ret
      exact ⟨_, rfl, rfl, fun _ => ⟨h0, h1, by omega⟩⟩
    · go_enter Try.func24, Try.ntmps24
      go_wp2
      go_ret
      exact ⟨true, rfl, rfl, fun h => by cases h⟩
  · go_enter Try.func24, Try.ntmps24
    go_wp2
    go_ret
    exact ⟨true, rfl, rfl, fun h => by cases h⟩

theorem premise_any (a0 : Option Addr) (n0 c0 : Nat) (i : Int) (w : World) :
    Calls Try.prog 25 #[.slice a0 n0 c0, .int .i64 i] w (Says w (Within i n0)) := by
  by_cases h0 : 0 ≤ i
  · by_cases h1 : i < (n0 : Int)
    · go_enter Try.func25, Try.ntmps25
      go_wp2
      go_ret
      exact ⟨true, rfl, rfl, fun _ => ⟨h0, h1⟩⟩
    · go_enter Try.func25, Try.ntmps25
      go_wp2
      go_ret
      exact ⟨false, rfl, rfl, fun h => by cases h⟩
  · go_enter Try.func25, Try.ntmps25
    go_wp2
    go_ret
    exact ⟨false, rfl, rfl, fun h => by cases h⟩

set_option maxHeartbeats 400000 in
set_option maxRecDepth 100000 in
theorem cloneInts_any (v : Value) (n : Nat) (xs : List Value) (w : World) (hs : Sees w v n xs) (hl : xs.length = n * 1) (h1 : ∀ u ∈ xs, u.oneCell' = true) (hn : n ≤ 1048576) :
    Calls Try.prog 26 #[v] w (Made w 3 1 n xs) := by
  have q : ∀ (w : World) (a : Option Addr) (n c n' c' : Nat), (binOp .eql 51 (.slice a n c) (.slice none n' c')).run Try.prog w = .ok (.bool a.isNone) w := fun w a n c n' c' => Lib.run_eql_slice_nil w _ _ a n c n' c' Try.underlying51
  rcases hs with ⟨rfl, rfl, rfl⟩ | ⟨a, c, rfl, hc⟩
  · go_enter Try.func26, Try.ntmps26
    go_wp2
    go_ret
    exact ⟨_, rfl, World.ownsRow_nil _ _ _ _, Below.refl _ _⟩
  · obtain ⟨i0, hi, hz0, hz1, hz2⟩ := info_parts Try.info3
    go_enter Try.func26, Try.ntmps26
    go_wp2_with (first
      | (at_make; refine wpList_make_full _ rfl _ _ 51 rfl w.heap.size 3 i0 (.int .i64 0) 1 Try.underlying51 hi hz0 hz1 _ _ _ _ n rfl rfl rfl rfl (by rw [hz2]; omega) (by unfold maxLen; omega) (Nat.le_refl _) ?_; intro w1 hown1 hgrow1))
    have hsrc : ∀ j v, xs[j]? = some v → w1.cell? (a.add j) = some v := fun j v hj => hgrow1.cell (hc j v hj) (by simp)
    obtain ⟨w2, hrun, hown2, hgrow2⟩ := run_copy_own (P := Try.prog) w1 51 51 3 3 i0 1 Try.underlying51 hi hz1 w.heap.size w.heap.size n n a c _ hown1 xs hl hsrc h1
    clear hsrc hown1 hc
    rw [hrun]
    clear hrun
    have hb := ((Below.refl w.heap.size w).grown hgrow1 (Nat.le_refl _) (by simp)).grown hgrow2 hgrow1.size (by simp)
    clear hgrow1 hgrow2
    go_wp2
    go_ret
    exact ⟨_, rfl, hown2, hb⟩

set_option maxHeartbeats 400000 in
set_option maxRecDepth 100000 in
theorem cloneRaises_any (v : Value) (n : Nat) (xs : List Value) (w : World) (hs : Sees w v n xs) (hl : xs.length = n * 3) (h1 : ∀ u ∈ xs, u.oneCell' = true) (hn : n ≤ 1048576) :
    Calls Try.prog 27 #[v] w (Made w 70 3 n xs) := by
  have q : ∀ (w : World) (a : Option Addr) (n c n' c' : Nat), (binOp .eql 52 (.slice a n c) (.slice none n' c')).run Try.prog w = .ok (.bool a.isNone) w := fun w a n c n' c' => Lib.run_eql_slice_nil w _ _ a n c n' c' Try.underlying52
  rcases hs with ⟨rfl, rfl, rfl⟩ | ⟨a, c, rfl, hc⟩
  · go_enter Try.func27, Try.ntmps27
    go_wp2
    go_ret
    exact ⟨_, rfl, World.ownsRow_nil _ _ _ _, Below.refl _ _⟩
  · obtain ⟨i0, hi, hz0, hz1, hz2⟩ := info_parts Try.info70
    go_enter Try.func27, Try.ntmps27
    go_wp2_with (first
      | (at_make; refine wpList_make_full _ rfl _ _ 52 rfl w.heap.size 70 i0 (.agg #[.int .i64 0, .int .i64 0, .int .i64 0]) 3 Try.underlying52 hi hz0 hz1 _ _ _ _ n rfl rfl rfl rfl (by rw [hz2]; omega) (by unfold maxLen; omega) (Nat.le_refl _) ?_; intro w1 hown1 hgrow1))
    have hsrc : ∀ j v, xs[j]? = some v → w1.cell? (a.add j) = some v := fun j v hj => hgrow1.cell (hc j v hj) (by simp)
    obtain ⟨w2, hrun, hown2, hgrow2⟩ := run_copy_own (P := Try.prog) w1 52 52 3 70 i0 3 Try.underlying52 hi hz1 w.heap.size w.heap.size n n a c _ hown1 xs hl hsrc h1
    clear hsrc hown1 hc
    rw [hrun]
    clear hrun
    have hb := ((Below.refl w.heap.size w).grown hgrow1 (Nat.le_refl _) (by simp)).grown hgrow2 hgrow1.size (by simp)
    clear hgrow1 hgrow2
    go_wp2
    go_ret
    exact ⟨_, rfl, hown2, hb⟩

set_option maxHeartbeats 400000 in
set_option maxRecDepth 100000 in
theorem cloneBytes_any (v : Value) (n : Nat) (xs : List Value) (w : World) (hs : Sees w v n xs) (hl : xs.length = n * 1) (h1 : ∀ u ∈ xs, u.oneCell' = true) (hn : n ≤ 1048576) :
    Calls Try.prog 28 #[v] w (Made w 5 1 n xs) := by
  have q : ∀ (w : World) (a : Option Addr) (n c n' c' : Nat), (binOp .eql 53 (.slice a n c) (.slice none n' c')).run Try.prog w = .ok (.bool a.isNone) w := fun w a n c n' c' => Lib.run_eql_slice_nil w _ _ a n c n' c' Try.underlying53
  rcases hs with ⟨rfl, rfl, rfl⟩ | ⟨a, c, rfl, hc⟩
  · go_enter Try.func28, Try.ntmps28
    go_wp2
    go_ret
    exact ⟨_, rfl, World.ownsRow_nil _ _ _ _, Below.refl _ _⟩
  · obtain ⟨i0, hi, hz0, hz1, hz2⟩ := info_parts Try.info5
    go_enter Try.func28, Try.ntmps28
    go_wp2_with (first
      | (at_make; refine wpList_make_full _ rfl _ _ 53 rfl w.heap.size 5 i0 (.int .u8 0) 1 Try.underlying53 hi hz0 hz1 _ _ _ _ n rfl rfl rfl rfl (by rw [hz2]; omega) (by unfold maxLen; omega) (Nat.le_refl _) ?_; intro w1 hown1 hgrow1))
    have hsrc : ∀ j v, xs[j]? = some v → w1.cell? (a.add j) = some v := fun j v hj => hgrow1.cell (hc j v hj) (by simp)
    obtain ⟨w2, hrun, hown2, hgrow2⟩ := run_copy_own (P := Try.prog) w1 53 53 3 5 i0 1 Try.underlying53 hi hz1 w.heap.size w.heap.size n n a c _ hown1 xs hl hsrc h1
    clear hsrc hown1 hc
    rw [hrun]
    clear hrun
    have hb := ((Below.refl w.heap.size w).grown hgrow1 (Nat.le_refl _) (by simp)).grown hgrow2 hgrow1.size (by simp)
    clear hgrow1 hgrow2
    go_wp2
    go_ret
    exact ⟨_, rfl, hown2, hb⟩

end Go.Proofs.Qxb6605804a
