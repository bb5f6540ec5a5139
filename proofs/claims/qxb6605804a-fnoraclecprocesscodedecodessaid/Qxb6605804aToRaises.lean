import Derived.Test.Qxb6605804aBase
import Derived.Deep.RegionHeld3
import Derived.Deep.AppendLies
import Derived.Deep.DrawnRows
namespace Go.Proofs.Qxb6605804a
open Go.RowKit
attribute [local go_sem ↓] Go.wp_at_zero Go.wp_at_succ

theorem mkRaise_any (s p t : Int) (w : World) :
    Calls Try.prog 36 #[.int .i64 s, .int .i64 p, .int .i64 t] w fun e w' => e = .returned (.agg #[.int .i64 s, .int .i64 p, .int .i64 t]) ∧ w.alloc (.cells #[.int .i64 s, .int .i64 p, .int .i64 t] 73) = w' := by
  go_enter Try.func36, Try.ntmps36
  go_wp2
  exact bodyPost_ret (v := .agg #[.int .i64 s, .int .i64 p, .int .i64 t]) (by simp [results, Try.results36, go_sem]) rfl ⟨rfl, rfl⟩

/-- Every element of the row is three ints. -/
def Triples (n : Nat) (xs : List Value) : Prop :=
  ∀ j, j < n → ∃ s p t : Int, xs[j * 3]? = some (.int .i64 s) ∧ xs[j * 3 + 1]? = some (.int .i64 p) ∧ xs[j * 3 + 2]? = some (.int .i64 t)

theorem take_triple {xs : List Value} {k : Nat} {a b c : Value} (h0 : xs[k * 3]? = some a) (h1 : xs[k * 3 + 1]? = some b) (h2 : xs[k * 3 + 2]? = some c) :
    xs.take (k * 3) ++ [a, b, c] = xs.take ((k + 1) * 3) := by
  obtain ⟨l0, rfl⟩ := List.getElem?_eq_some_iff.1 h0
  obtain ⟨l1, rfl⟩ := List.getElem?_eq_some_iff.1 h1
  obtain ⟨l2, rfl⟩ := List.getElem?_eq_some_iff.1 h2
  rw [show (k + 1) * 3 = k * 3 + 1 + 1 + 1 by omega, List.take_succ_eq_append_getElem (by omega), List.take_succ_eq_append_getElem (by omega), List.take_succ_eq_append_getElem (by omega)]
  simp only [List.append_assoc, List.cons_append, List.nil_append]

theorem news_two (w : World) (o : Obj) (cs : Array Value) (t : TypeId) : ((w.alloc o).alloc (.cells cs t)).drew.heap[w.heap.size + 1]? = some (.cells cs t (0, 0)) := by
  have h := heap_alloc_new (w.alloc o) (.cells cs t)
  have e : (w.alloc o).heap.size = w.heap.size + 1 := by simp
  rw [e] at h
  exact h

theorem own_ne {w : World} {base g : Nat} {e : TypeId} {size : Nat} {v : Value} {n : Nat} {xs : List Value} (h : w.ownsRow base e size v n xs) (hg : g < base) : v.ownBlock ≠ some g := by
  intro hv
  have := (h.lt g hv).1
  omega

set_option maxHeartbeats 1600000 in
set_option maxRecDepth 100000 in
theorem toRaises_any (B : Nat) (v : Value) (n : Nat) (xs : List Value) (w : World) (hx : w.ownsRow B 70 3 v n xs) (ht : Triples n xs) (hn : n ≤ 32768) :
    Calls Try.prog 30 #[v] w (Made w 73 3 n xs) := by
  have q : ∀ (w : World) (a : Option Addr) (n c n' c' : Nat), (binOp .eql 52 (.slice a n c) (.slice none n' c')).run Try.prog w = .ok (.bool a.isNone) w := fun w a n c n' c' => Lib.run_eql_slice_nil w _ _ a n c n' c' Try.underlying52
  have hxl := hx.1
  have hxx := hx
  rcases hxx.2 with ⟨rfl, rfl⟩ | ⟨g, cap, cur, rfl, _, hg, _⟩
  · obtain rfl : xs = [] := List.eq_nil_of_length_eq_zero (by omega)
    clear hx hxx ht
    go_enter Try.func30, Try.ntmps30
    go_wp2
    go_ret
    exact ⟨_, rfl, World.ownsRow_nil _ _ _ _, Below.refl _ _⟩
  · have hgl : g < w.heap.size := (Array.getElem?_eq_some_iff.1 hg).1
    have hcell : ∀ j, j < n → ∃ s p t : Int, xs.take (j * 3) ++ [.int .i64 s, .int .i64 p, .int .i64 t] = xs.take ((j + 1) * 3) ∧ w.cell? ⟨g, j * 3, none⟩ = some (.int .i64 s) ∧ w.cell? ⟨g, j * 3 + 1, none⟩ = some (.int .i64 p) ∧ w.cell? ⟨g, j * 3 + 2, none⟩ = some (.int .i64 t) := by
      intro j hj
      obtain ⟨s, p, t, h0, h1, h2⟩ := ht j hj
      exact ⟨s, p, t, take_triple h0 h1 h2, (hx.cellAt _ (by omega)).trans h0, (hx.cellAt _ (by omega)).trans h1, (hx.cellAt _ (by omega)).trans h2⟩
    clear hx hxx ht hg
    obtain ⟨i0, hi, hz0, hz1, hz2⟩ := info_parts Try.info73
    go_enter Try.func30, Try.ntmps30
    go_wp2_with (first
      | (at_make; refine wpList_make_own _ rfl _ _ 62 rfl w.heap.size 73 i0 (.agg #[.int .i64 0, .int .i64 0, .int .i64 0]) 3 Try.underlying62 hi hz0 hz1 _ _ _ n rfl rfl rfl (by rw [hz2]; omega) (by unfold maxLen; omega) (Nat.le_refl _) ?_; intro w1 hown1 hgrow1))
    have hb1 := (Below.refl w.heap.size w).grown hgrow1 (Nat.le_refl _) (by simp)
    clear hgrow1
    go_loopw [3, 4] (fun vo i wr => ∃ k : Nat, i = .int .i64 k ∧ k ≤ n ∧ wr.ownsRow w.heap.size 73 3 vo k (xs.take (k * 3)) ∧ Below w.heap.size w wr) (fun _ i _ => n - (intOf i).toNat)
    case atStart => exact ⟨0, rfl, Nat.zero_le _, by simpa using hown1, hb1⟩
    case round =>
      clear hown1 hb1
      obtain ⟨k, rfl, hk, hown, hb⟩ := hrel
      by_cases hlt : k < n
      · obtain ⟨s, p, t, htake, c0, c1, c2⟩ := hcell k hlt
        rw [← hb.cell (p := ⟨g, k * 3, none⟩) hgl] at c0
        rw [← hb.cell (p := ⟨g, k * 3 + 1, none⟩) hgl] at c1
        rw [← hb.cell (p := ⟨g, k * 3 + 2, none⟩) hgl] at c2
        have HT : Hid (xs.take (k * 3) ++ [.int .i64 s, .int .i64 p, .int .i64 t] = xs.take ((k + 1) * 3)) := htake
        clear htake hcell
        have hk0 : (0 : Int) ≤ (k : Int) := Int.natCast_nonneg _
        have hk1 : (k : Int) < (n : Int) := by omega
        have hsz := hb.size
        have lg := World.block_lt_of_cell? wr _ c0
        have ag := own_ne hown hgl
        go_wp2_with fail
        go_region_held3 (fun w' => w'.cell? ⟨g, k * 3, none⟩ = some (.int .i64 s) ∧ w'.cell? ⟨g, k * 3 + 1, none⟩ = some (.int .i64 p) ∧ w'.cell? ⟨g, k * 3 + 2, none⟩ = some (.int .i64 t))
          (first
            | go_keep
            | (go_split_ands; refine ⟨?_, ?_, ?_⟩ <;> (rw [hgrow.cell_far _ (by simp; omega) (Ne.symm ag)]; assumption)))
          (first
            | (go_at_call 36; refine (mkRaise_any _ _ _ _).mono ?_; rintro e w' ⟨rfl, rfl⟩)
            | (refine step_append_lies _ (by rfl) _ _ _ (by rfl) w.heap.size 73 i0 _ 3 24 Try.underlying62 hi hz0 hz1 hz2 rfl (by omega) _ k _ (by rfl) (((hown.alloc _).alloc _).drew) ⟨wr.heap.size + 1, 0, none⟩ 1 1 [.int .i64 s, .int .i64 p, .int .i64 t] (by rfl) (by rfl) (World.news_of_block (cs := #[.int .i64 s, .int .i64 p, .int .i64 t]) (t := 73) (fr := (0, 0)) (news_two wr _ _ _)) (by simp [Value.oneCell']) (by omega) (by unfold maxLen; omega) (by omega) (by simp; omega) (wr.heap.size + 2) (by simp) ?_; intro gg cp w2 hown2 hgrow hat hltg))
        rw [HT.out] at hown2
        have hb2 : Below w.heap.size w w2 := (((hb.alloc hsz _).alloc (by simp; omega) _).drew).grown hgrow (by simp; omega) (fun j hj => (hown.lt j hj).1)
        clear hgrow hown hb
        go_wp2
        go_roundw
        case rel => exact ⟨k + 1, by go_num, by omega, hown2, hb2⟩
        case measure => simp [intOf]; omega
      · obtain rfl : k = n := by omega
        go_wp2
        go_ret
        exact ⟨_, rfl, by rw [← hxl, List.take_length] at hown; exact hown, hb⟩

end Go.Proofs.Qxb6605804a
