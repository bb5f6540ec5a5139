import Derived.Test.Qxb6605814aSearch
namespace Go.Proofs.Qxb6605814a
open Go.RowKit

/-- A call that answers the bool b and leaves what was there. -/
def Answer (w : World) (b : Bool) (e : Ending) (w' : World) : Prop := e = .returned (.bool b) ∧ Below w.heap.size w w'

set_option maxHeartbeats 400000 in
theorem isVoter_any (s : Int) (av al : Option Addr) (nv cv nl cl : Nat) (zs : List Int) (x : Int) (w : World) (hs : Nums w av nv zs) (ha : Asc zs) (hn : nv ≤ 65536) :
    Calls Try.prog 32 #[.agg #[.int .u64 s, .slice av nv cv, .slice al nl cl], .int .u64 x] w (Answer w (memB zs x)) := by
  have HS : Hid (Nums w av nv zs) := hs
  have HA : Hid (Asc zs) := ha
  obtain ⟨bb, hbb⟩ : ∃ bb, bb = memB zs x := ⟨_, rfl⟩
  rw [← hbb]
  have HB : Hid (bb = memB zs x) := hbb
  clear hs ha hbb
  go_enter Try.func32, Try.ntmps32
  go_wp2_with fail
  have hb := (Below.refl w.heap.size w).alloc (Nat.le_refl _) (.cells #[.int .u64 s, .slice av nv cv, .slice al nl cl] 60)
  refine (search_any av nv cv zs x _ (HS.out.below hb) HA.out hn).mono ?_
  rintro e w' ⟨p, rfl, rfl⟩
  rw [← HB.out]
  go_wp2
  go_ret
  exact ⟨rfl, hb⟩

set_option maxHeartbeats 400000 in
theorem isLearner_any (s : Int) (av al : Option Addr) (nv cv nl cl : Nat) (zs : List Int) (x : Int) (w : World) (hs : Nums w al nl zs) (ha : Asc zs) (hn : nl ≤ 65536) :
    Calls Try.prog 33 #[.agg #[.int .u64 s, .slice av nv cv, .slice al nl cl], .int .u64 x] w (Answer w (memB zs x)) := by
  have HS : Hid (Nums w al nl zs) := hs
  have HA : Hid (Asc zs) := ha
  obtain ⟨bb, hbb⟩ : ∃ bb, bb = memB zs x := ⟨_, rfl⟩
  rw [← hbb]
  have HB : Hid (bb = memB zs x) := hbb
  clear hs ha hbb
  go_enter Try.func33, Try.ntmps33
  go_wp2_with fail
  have hb := (Below.refl w.heap.size w).alloc (Nat.le_refl _) (.cells #[.int .u64 s, .slice av nv cv, .slice al nl cl] 60)
  refine (search_any al nl cl zs x _ (HS.out.below hb) HA.out hn).mono ?_
  rintro e w' ⟨p, rfl, rfl⟩
  rw [← HB.out]
  go_wp2
  go_ret
  exact ⟨rfl, hb⟩

set_option maxHeartbeats 400000 in
theorem has_any (s : Int) (av al : Option Addr) (nv cv nl cl : Nat) (zv zl : List Int) (x : Int) (w : World) (hv : Nums w av nv zv) (hl : Nums w al nl zl) (ha : Asc zv) (hb : Asc zl) (hn : nv ≤ 65536) (hm : nl ≤ 65536) :
    Calls Try.prog 31 #[.agg #[.int .u64 s, .slice av nv cv, .slice al nl cl], .int .u64 x] w (Answer w (memB zv x || memB zl x)) := by
  have HV : Hid (Nums w av nv zv) := hv
  have HL : Hid (Nums w al nl zl) := hl
  have HA : Hid (Asc zv) := ha
  have HB : Hid (Asc zl) := hb
  clear hv hl ha hb
  go_enter Try.func31, Try.ntmps31
  go_wp2_with fail
  have h1 := (Below.refl w.heap.size w).alloc (Nat.le_refl _) (.cells #[.int .u64 s, .slice av nv cv, .slice al nl cl] 60)
  refine (isVoter_any s av al nv cv nl cl zv x _ (HV.out.below h1) HA.out hn).mono ?_
  rintro e w1 ⟨rfl, B1⟩
  have hlt : w.heap.size < (w.alloc (.cells #[.int .u64 s, .slice av nv cv, .slice al nl cl] 60)).heap.size := by simp
  have c0 : w1.cell? ⟨w.heap.size, 0, none⟩ = some (.int .u64 s) := (B1.cell (p := ⟨w.heap.size, 0, none⟩) hlt).trans ((World.cell?_alloc_new _ _ _ _).trans rfl)
  have c1 : w1.cell? ⟨w.heap.size, 1, none⟩ = some (.slice av nv cv) := (B1.cell (p := ⟨w.heap.size, 1, none⟩) hlt).trans ((World.cell?_alloc_new _ _ _ _).trans rfl)
  have c2 : w1.cell? ⟨w.heap.size, 2, none⟩ = some (.slice al nl cl) := (B1.cell (p := ⟨w.heap.size, 2, none⟩) hlt).trans ((World.cell?_alloc_new _ _ _ _).trans rfl)
  have h2 := h1.trans (B1.mono h1.size)
  clear B1 h1 hlt
  cases hmv : memB zv x with
  | true =>
    have HM : Hid (memB zv x = true) := hmv
    clear hmv
    go_wp2
    go_ret
    exact ⟨by rw [HM.out]; rfl, h2⟩
  | false =>
    have HM : Hid (memB zv x = false) := hmv
    clear hmv
    go_wp2_with fail
    refine (isLearner_any s av al nv cv nl cl zl x w1 (HL.out.below h2) HB.out hm).mono ?_
    rintro e w2 ⟨rfl, B2⟩
    have h3 := h2.trans (B2.mono h2.size)
    clear B2
    obtain ⟨bb, hbb⟩ : ∃ bb, bb = memB zl x := ⟨_, rfl⟩
    rw [← hbb]
    have HBB : Hid (bb = memB zl x) := hbb
    clear hbb
    go_wp2
    go_ret
    exact ⟨by rw [HM.out, ← HBB.out]; rfl, h3⟩

def Has (w : World) (zv zl : List Int) (x : Int) (e : Ending) (w' : World) : Prop := e = .returned (.bool (memB zv x || memB zl x)) ∧ Below w.heap.size w w'

set_option maxHeartbeats 400000 in
theorem zhas_any (s : Int) (av al : Option Addr) (nv cv nl cl : Nat) (zv zl : List Int) (x : Int) (w : World) (hv : Nums w av nv zv) (hl : Nums w al nl zl) (ha : Asc zv) (hb : Asc zl) (hn : nv ≤ 65536) (hm : nl ≤ 65536) :
    Calls Try.prog 23 #[.int .u64 s, .slice av nv cv, .slice al nl cl, .int .u64 x] w (Has w zv zl x) := by
  have HV : Hid (Nums w av nv zv) := hv
  have HL : Hid (Nums w al nl zl) := hl
  have HA : Hid (Asc zv) := ha
  have HB : Hid (Asc zl) := hb
  clear hv hl ha hb
  obtain ⟨bb, hbb⟩ : ∃ bb, bb = (memB zv x || memB zl x) := ⟨_, rfl⟩
  unfold Has
  rw [← hbb]
  have HBB : Hid (bb = (memB zv x || memB zl x)) := hbb
  clear hbb
  go_enter Try.func23, Try.ntmps23
  go_wp2_with fail
  refine (has_any s av al nv cv nl cl zv zl x w HV.out HL.out HA.out HB.out hn hm).mono ?_
  rintro e w1 ⟨rfl, B1⟩
  rw [← HBB.out]
  go_wp2
  go_ret
  exact ⟨rfl, B1⟩

end Go.Proofs.Qxb6605814a
