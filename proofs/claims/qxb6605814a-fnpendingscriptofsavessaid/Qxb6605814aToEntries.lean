import Derived.Test.Qxb6605814aEntries
namespace Go.Proofs.Qxb6605814a
open Go.RowKit
attribute [local go_sem ↓] Go.wp_at_zero Go.wp_at_succ

theorem Try.info50 : (Try.prog.info? 50).map (fun i => (i.zero, i.size, i.bytes)) = some (some (.agg #[.int .u64 0, .int .u64 0, .int .u8 0, .slice none 0 0]), 4, 48) := by kernel_rfl

theorem below_undrew {w w' : World} (h : Below w.drew.heap.size w.drew w') : Below w.heap.size w w' := ⟨h.os, h.tape, h.output, h.size, h.block⟩

theorem own_cell {w : World} {B : Nat} {e : TypeId} {size g n cap j : Nat} {xs : List Value} (h : w.ownsRow B e size (.slice (some ⟨g, 0, none⟩) n cap) n xs) (hj : j < n * size) : ∃ v, w.cell? ⟨g, j, none⟩ = some v :=
  ⟨_, (h.cellAt j hj).trans (List.getElem?_eq_getElem (by rw [h.1]; exact hj))⟩

theorem cell_four {w : World} {g gr o o1 o2 o3 o4 : Nat} {x1 x2 x3 x4 v : Value} (h : w.cell? ⟨g, o, none⟩ = some v) (hne : g ≠ gr) :
    ((((w.setCell ⟨gr, o1, none⟩ x1).setCell ⟨gr, o2, none⟩ x2).setCell ⟨gr, o3, none⟩ x3).setCell ⟨gr, o4, none⟩ x4).cell? ⟨g, o, none⟩ = some v := by
  have e : ((((w.setCell ⟨gr, o1, none⟩ x1).setCell ⟨gr, o2, none⟩ x2).setCell ⟨gr, o3, none⟩ x3).setCell ⟨gr, o4, none⟩ x4).heap[g]? = w.heap[g]? := by
    rw [Below.heap_setCell _ _ _ _ hne, Below.heap_setCell _ _ _ _ hne, Below.heap_setCell _ _ _ _ hne, Below.heap_setCell _ _ _ _ hne]
  exact (World.cell?_of_block (w := w) (a := ⟨g, o, none⟩) e).trans h

set_option maxHeartbeats 1600000 in
set_option maxRecDepth 100000 in
theorem toEntries_any (ao : Option Addr) (n c : Nat) (D : Nat → Nat) (w : World) (hs : EntriesIn w ao n D) (hnil : ao = none → c = 0) (hn : n ≤ 16384) (hD : ∀ j, j < n → D j ≤ 1048576) :
    Calls Try.prog 11 #[.slice ao n c] w (SomeSlice w n) := by
  have q : ∀ (w : World) (a : Option Addr) (n c n' c' : Nat), (binOp .eql 23 (.slice a n c) (.slice none n' c')).run Try.prog w = .ok (.bool a.isNone) w := fun w a n c n' c' => Lib.run_eql_slice_nil w _ _ a n c n' c' Try.underlying23
  cases ao with
  | none =>
    obtain rfl := hnil rfl
    obtain rfl := hs.1 rfl
    clear hs hnil hD
    go_enter Try.func11, Try.ntmps11
    go_wp2
    go_ret
    exact ⟨none, rfl, fun _ => rfl, by simp, Below.refl _ _⟩
  | some ad =>
    have HS : Hid (EntriesIn w (some ad) n D) := hs
    have HD : Hid (∀ j, j < n → D j ≤ 1048576) := hD
    clear hs hnil hD
    obtain ⟨i0, hi, hz0, hz1, hz2⟩ := info_parts Try.info50
    go_enter Try.func11, Try.ntmps11
    go_wp2_with (first
      | (at_make; refine wpList_make_full _ rfl _ _ 26 rfl w.heap.size 50 i0 (.agg #[.int .u64 0, .int .u64 0, .int .u8 0, .slice none 0 0]) 4 Try.underlying26 hi hz0 hz1 _ _ _ _ n rfl rfl rfl rfl (by rw [hz2]; omega) (by unfold maxLen; omega) (Nat.le_refl _) ?_; intro w1 hown1 hgrow1))
    have hb1 := below_of_grown hgrow1
    clear hgrow1
    go_loopw [4] (fun vi wr => ∃ (k : Nat) (xs : List Value), vi = .int .i64 k ∧ k ≤ n ∧ wr.ownsRow w.heap.size 50 4 (.slice (some ⟨w.heap.size, 0, none⟩) n n) n xs ∧ Below w.heap.size w wr) (fun vi _ => n - (intOf vi).toNat)
    case atStart => exact ⟨0, _, rfl, Nat.zero_le _, hown1, hb1⟩
    case round =>
      clear hown1 hb1
      obtain ⟨k, xs, rfl, hk, ho, hb⟩ := hrel
      by_cases hlt : k < n
      · obtain ⟨b, off, x, t, y, a, cc, had, e0, e1, e2, e3, hby, hna⟩ := HS.out.2 k hlt
        obtain rfl := Option.some.inj had
        have hbl : b < w.heap.size := World.block_lt_of_cell? w _ e0
        rw [← hb.cell (p := ⟨b, off + k * 4, none⟩) hbl] at e0
        rw [← hb.cell (p := ⟨b, off + k * 4 + 1, none⟩) hbl] at e1
        rw [← hb.cell (p := ⟨b, off + k * 4 + 2, none⟩) hbl] at e2
        rw [← hb.cell (p := ⟨b, off + k * 4 + 3, none⟩) hbl] at e3
        have hd := HD.out k hlt
        obtain ⟨L, hL⟩ : ∃ L, L = D k := ⟨_, rfl⟩
        rw [← hL] at e3 hby hna hd
        have hby' := hby.below hb
        have HNA : Hid (a = none → cc = 0 ∧ L = 0) := hna
        have HBY : Hid (BytesIn wr a L) := hby'
        have HO : wr.ownsRow w.heap.size 50 4 (.slice (some ⟨w.heap.size, 0, none⟩) n n) n xs := ho
        clear hL had hby hby' hna ho HS HD
        have hk0 : (0 : Int) ≤ (k : Int) := Int.natCast_nonneg _
        have hk1 : (k : Int) < (n : Int) := by omega
        have hszr := hb.size
        have hg0 : w.heap.size < wr.heap.size := (HO.lt w.heap.size rfl).2
        have hblr : b < wr.heap.size := by omega
        have hne : b ≠ w.heap.size := by omega
        have HCL : Hid (Calls Try.prog 27 #[.slice a L cc] wr.drew (SomeSlice wr.drew L)) := cloneBytes_any a L cc wr.drew HBY.out HNA.out hd
        go_wp2_with fail
        go_region_held3 (fun w' => w'.cell? ⟨b, off + k * 4, none⟩ = some (.int .u64 x) ∧ w'.cell? ⟨b, off + k * 4 + 1, none⟩ = some (.int .u64 t) ∧ w'.cell? ⟨b, off + k * 4 + 2, none⟩ = some (.int .u8 y) ∧ w'.cell? ⟨b, off + k * 4 + 3, none⟩ = some (.slice a L cc))
          (first
            | exact ⟨e0, e1, e2, e3⟩
            | exact ⟨s0, s1, s2, s3⟩
            | (go_keep; done)
            | exact ⟨cell_four s0 hne, cell_four s1 hne, cell_four s2 hne, cell_four s3 hne⟩)
          (first
            | (go_at_call 27; refine HCL.out.mono ?_; rintro e w2 ⟨a2, rfl, _, _, hb2⟩; have hb2 := below_undrew hb2; have s0 := (hb2.cell (p := ⟨b, off + k * 4, none⟩) hblr).trans e0; have s1 := (hb2.cell (p := ⟨b, off + k * 4 + 1, none⟩) hblr).trans e1; have s2 := (hb2.cell (p := ⟨b, off + k * 4 + 2, none⟩) hblr).trans e2; have s3 := (hb2.cell (p := ⟨b, off + k * 4 + 3, none⟩) hblr).trans e3; have ho2 := ownsRow_below HO hb2 (Nat.le_refl _); obtain ⟨x0, f0⟩ := own_cell ho2 (show k * 4 < n * 4 by omega); obtain ⟨x1, f1⟩ := own_cell ho2 (show k * 4 + 1 < n * 4 by omega); obtain ⟨x2, f2⟩ := own_cell ho2 (show k * 4 + 2 < n * 4 by omega); obtain ⟨x3, f3⟩ := own_cell ho2 (show k * 4 + 3 < n * 4 by omega); have z0 := ho2.frozenAt (k * 4); have z1 := ho2.frozenAt (k * 4 + 1); have z2 := ho2.frozenAt (k * 4 + 2); have z3 := ho2.frozenAt (k * 4 + 3)))
        have R1 := ((((((ownsRow_below HO hb2 (Nat.le_refl _)).stored (k * 4) (.int .u64 x)).1.stored (k * 4 + 1) (.int .u64 t)).1).stored (k * 4 + 2) (.int .u8 y)).1.stored (k * 4 + 3) (.slice a2 L L)).1
        have hb3 : Below w.heap.size w w2 := hb.trans (hb2.mono hszr)
        have R2 := (((hb3.setCell (p := ⟨w.heap.size, k * 4, none⟩) (Nat.le_refl _) (.int .u64 x)).setCell (p := ⟨w.heap.size, k * 4 + 1, none⟩) (Nat.le_refl _) (.int .u64 t)).setCell (p := ⟨w.heap.size, k * 4 + 2, none⟩) (Nat.le_refl _) (.int .u8 y)).setCell (p := ⟨w.heap.size, k * 4 + 3, none⟩) (Nat.le_refl _) (.slice a2 L L)
        clear e0 e1 e2 e3 HO hb hb3 HCL HNA HBY
        go_wp2
        go_roundw
        case rel => exact ⟨k + 1, _, by go_num, by omega, R1, R2⟩
        case measure => simp [intOf]; omega
      · go_wp2
        go_ret
        exact ⟨_, rfl, by simp, fun x hx => ⟨w.heap.size, (Option.some.inj hx).symm⟩, hb⟩

end Go.Proofs.Qxb6605814a
