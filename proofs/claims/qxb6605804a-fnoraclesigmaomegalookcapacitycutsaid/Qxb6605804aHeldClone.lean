import Derived.Test.Qxb6605804aHeld
namespace Go.Proofs.Qxb6605804a
open Go.RowKit

theorem Try.info42 : (Try.prog.info? 42).map (fun i => (i.zero, i.size, i.bytes)) = some (some (.slice none 0 0), 1, 24) := by kernel_rfl
theorem Try.info35 : (Try.prog.info? 35).map (fun i => (i.zero, i.size, i.bytes)) = some (some (.slice none 0 0), 1, 24) := by kernel_rfl
theorem Try.info76 : (Try.prog.info? 76).map (fun i => (i.zero, i.size, i.bytes)) = some (some (.agg #[.int .i64 0, .int .i64 0]), 2, 16) := by kernel_rfl
theorem Try.info44 : (Try.prog.info? 44).map (fun i => (i.zero, i.size, i.bytes)) = some (some (.agg #[.int .i64 0, .int .i64 0]), 2, 16) := by kernel_rfl

/-- The first k rows lie in rows of the call's own. -/
def RowsOwn (w : World) (B : Nat) (t : TypeId) (Hs : List (List (Int × Int))) (us : List Value) (k : Nat) : Prop :=
  ∀ j row, j < k → Hs[j]? = some row → ∃ u, us[j]? = some u ∧ w.ownsRow B t 2 u row.length (pcells row)

/-- What zzCloneHeld leaves. -/
def HeldMade (w : World) (n : Nat) (Hs : List (List (Int × Int))) (e : Ending) (w' : World) : Prop :=
  ∃ v us, e = .returned v ∧ w'.ownsRow w.heap.size 42 1 v n us ∧ RowsOwn w' w.heap.size 76 Hs us n ∧ Below w.heap.size w w'

theorem pcells_length (row : List (Int × Int)) : (pcells row).length = row.length * 2 := by
  induction row with
  | nil => rfl
  | cons r R ih => simp only [pcells, List.flatMap_cons, List.length_append, List.length_cons, List.length_nil] at ih ⊢; omega

theorem pcells_get : ∀ (R : List (Int × Int)) (k : Nat) (r : Int × Int), R[k]? = some r → (pcells R)[k * 2]? = some (.int .i64 r.1) ∧ (pcells R)[k * 2 + 1]? = some (.int .i64 r.2)
  | [], k, r, h => by simp at h
  | x :: R, 0, r, h => by
    simp at h
    subst h
    simp [pcells]
  | x :: R, k + 1, r, h => by
    have ih := pcells_get R k r (by simpa using h)
    have e : pcells (x :: R) = [.int .i64 x.1, .int .i64 x.2] ++ pcells R := by simp [pcells]
    rw [e, List.getElem?_append_right (by simp; omega), List.getElem?_append_right (by simp; omega)]
    simp only [List.length_cons, List.length_nil]
    rw [show (k + 1) * 2 - (0 + 1 + 1) = k * 2 by omega, show (k + 1) * 2 + 1 - (0 + 1 + 1) = k * 2 + 1 by omega]
    exact ih

theorem pcells_oneCell (R : List (Int × Int)) : ∀ u ∈ pcells R, u.oneCell' = true := by
  intro u hu
  obtain ⟨r, _, h⟩ := List.mem_flatMap.1 hu
  simp at h
  rcases h with rfl | rfl <;> rfl

theorem RowsOwn.below {w w' : World} {B : Nat} {t : TypeId} {Hs : List (List (Int × Int))} {us : List Value} {k : Nat} (h : RowsOwn w B t Hs us k) (hb : Below w.heap.size w w') : RowsOwn w' B t Hs us k := fun j row hj hr => by
  obtain ⟨u, h1, h2⟩ := h j row hj hr
  exact ⟨u, h1, ownsRow_below h2 hb (Nat.le_refl _)⟩

theorem rows_next {wr w3 : World} {g0 n k : Nat} {tO tR : TypeId} {us : List Value} {Hs : List (List (Int × Int))} {row : List (Int × Int)} {u : Value}
    (ho : wr.ownsRow g0 tO 1 (.slice (some ⟨g0, 0, none⟩) n n) n us) (hr : RowsOwn wr (g0 + 1) tR Hs us k) (hz : ∀ j, k ≤ j → j < n → us[j]? = some (.slice none 0 0)) (h3 : Below wr.heap.size wr w3)
    (hrow : Hs[k]? = some row) (hu : w3.ownsRow (g0 + 1) tR 2 u row.length (pcells row)) (hk : k < n) :
    ∃ us', (w3.setCell ⟨g0, k, none⟩ u).ownsRow g0 tO 1 (.slice (some ⟨g0, 0, none⟩) n n) n us' ∧ RowsOwn (w3.setCell ⟨g0, k, none⟩ u) (g0 + 1) tR Hs us' (k + 1) ∧ (∀ j, k + 1 ≤ j → j < n → us'[j]? = some (.slice none 0 0)) ∧ us'[k]? = some u ∧ ∀ j, j ≠ k → us'[j]? = us[j]? := by
  have hl : us.length = n := by have := ho.1; omega
  refine ⟨us.set k u, ((ownsRow_below ho h3 (Nat.le_refl _)).stored k u).1, fun j r hj hr' => ?_, fun j hj hjn => ?_, by simp [hl, hk], fun j hj => List.getElem?_set_ne (Ne.symm hj)⟩
  · by_cases hjk : j = k
    · subst hjk
      rw [hrow] at hr'
      obtain rfl := Option.some.inj hr'
      exact ⟨u, by simp [hl, hk], ownsRow_setCell_below hu (by show g0 < g0 + 1; omega) _⟩
    · obtain ⟨v, h1, h2⟩ := hr j r (by omega) hr'
      exact ⟨v, by rw [List.getElem?_set_ne (by omega)]; exact h1, ownsRow_setCell_below (ownsRow_below h2 h3 (Nat.le_refl _)) (by show g0 < g0 + 1; omega) _⟩
  · rw [List.getElem?_set_ne (by omega)]
    exact hz j (by omega) hjn

theorem rows_skip {wr : World} {g0 n k : Nat} {tR : TypeId} {us : List Value} {Hs : List (List (Int × Int))} {row : List (Int × Int)}
    (hr : RowsOwn wr (g0 + 1) tR Hs us k) (hz : ∀ j, k ≤ j → j < n → us[j]? = some (.slice none 0 0)) (hrow : Hs[k]? = some row) (h0 : row.length = 0) (hk : k < n) : RowsOwn wr (g0 + 1) tR Hs us (k + 1) := fun j r hj hr' => by
  by_cases hjk : j = k
  · subst hjk
    rw [hrow] at hr'
    obtain rfl := Option.some.inj hr'
    obtain rfl := List.eq_nil_of_length_eq_zero h0
    exact ⟨_, hz j (Nat.le_refl _) hk, World.ownsRow_nil _ _ _ _⟩
  · exact hr j r (by omega) hr'

set_option maxHeartbeats 800000 in
set_option maxRecDepth 100000 in
theorem cloneHeld_any (ao : Option Addr) (n c : Nat) (Hs : List (List (Int × Int))) (w : World) (hs : HeldIn w ao n Hs) (hnil : ao = none → c = 0) (hn : n ≤ 65536) (hsm : ∀ (j : Nat) (row : List (Int × Int)), Hs[j]? = some row → row.length ≤ 65536) :
    Calls Try.prog 12 #[.slice ao n c] w (HeldMade w n Hs) := by
  have q22 : ∀ (w : World) (a : Option Addr) (n c n' c' : Nat), (binOp .eql 22 (.slice a n c) (.slice none n' c')).run Try.prog w = .ok (.bool a.isNone) w := fun w a n c n' c' => Lib.run_eql_slice_nil w _ _ a n c n' c' Try.underlying22
  have q42 : ∀ (w : World) (a : Option Addr) (n c n' c' : Nat), (binOp .neq 42 (.slice a n c) (.slice none n' c')).run Try.prog w = .ok (.bool (!a.isNone)) w := fun w a n c n' c' => run_neq_slice_nil_any w _ _ a n c n' c' Try.underlying42
  obtain ⟨hl, h0, hrow⟩ := hs
  cases ao with
  | none =>
    obtain rfl := h0 rfl
    obtain rfl := hnil rfl
    obtain rfl := List.eq_nil_of_length_eq_zero hl
    clear hrow h0 hnil hl
    go_enter Try.func12, Try.ntmps12
    go_wp2
    go_ret
    exact ⟨_, [], rfl, World.ownsRow_nil _ _ _ _, fun j row _ h => by simp at h, Below.refl _ _⟩
  | some ad =>
    have HL : Hid (Hs.length = n) := hl
    have HSM : Hid (∀ (j : Nat) (row : List (Int × Int)), Hs[j]? = some row → row.length ≤ 65536) := hsm
    have HROW : Hid (∀ j row, Hs[j]? = some row → ∃ b off a c, some ad = some ⟨b, off, none⟩ ∧ w.cell? ⟨b, off + j, none⟩ = some (.slice a row.length c) ∧ Sees w (.slice a row.length c) row.length (pcells row)) := hrow
    clear hl h0 hnil hsm hrow
    obtain ⟨i42, hi42, hz0, hz1, hz2⟩ := info_parts Try.info42
    obtain ⟨i76, hi76, hy0, hy1, hy2⟩ := info_parts Try.info76
    go_enter Try.func12, Try.ntmps12
    go_wp2_with (first
      | (at_make; refine wpList_make_full _ rfl _ _ 22 rfl w.heap.size 42 i42 (.slice none 0 0) 1 Try.underlying22 hi42 hz0 hz1 _ _ _ _ n rfl rfl rfl rfl (by rw [hz2]; omega) (by unfold maxLen; omega) (Nat.le_refl _) ?_; intro w1 hown1 hgrow1))
    have hmc : (madeCells (Value.slice none 0 0).cells (n * 1)).toList = List.replicate n (.slice none 0 0) := by rw [Nat.mul_one]; exact toList_madeCells_one _ _
    rw [hmc] at hown1
    clear hmc
    have hb1 := below_of_grown hgrow1
    clear hgrow1
    go_loopw [4] (fun vj wr => ∃ (k : Nat) (us : List Value), vj = .int .i64 k ∧ k ≤ n ∧ wr.ownsRow w.heap.size 42 1 (.slice (some ⟨w.heap.size, 0, none⟩) n n) n us ∧ RowsOwn wr (w.heap.size + 1) 76 Hs us k ∧ (∀ j, k ≤ j → j < n → us[j]? = some (.slice none 0 0)) ∧ Below w.heap.size w wr) (fun vj _ => n - (intOf vj).toNat)
    case atStart => exact ⟨0, _, rfl, Nat.zero_le _, hown1, fun j row hj => absurd hj (Nat.not_lt_zero _), fun j _ hj => by simp [hj], hb1⟩
    case round =>
      clear hown1 hb1
      obtain ⟨k, us, rfl, hk, ho, hr, hz, hb⟩ := hrel
      have HO := ho
      have HR : Hid (RowsOwn wr (w.heap.size + 1) 76 Hs us k) := hr
      have HZ : Hid (∀ j, k ≤ j → j < n → us[j]? = some (.slice none 0 0)) := hz
      clear hr hz
      by_cases hlt : k < n
      · obtain ⟨row, hrk⟩ : ∃ row, Hs[k]? = some row := ⟨_, List.getElem?_eq_getElem (by rw [HL.out]; exact hlt)⟩
        obtain ⟨b, off, a, c', had, hc, hse⟩ := HROW.out k row hrk
        obtain rfl := Option.some.inj had
        have hrl := HSM.out k row hrk
        have hbl : b < w.heap.size := World.block_lt_of_cell? w _ hc
        have hse := hse.below hb
        rw [← hb.cell (p := ⟨b, off + k, none⟩) hbl] at hc
        have HRK : Hid (Hs[k]? = some row) := hrk
        clear hrk had HROW HSM
        have hk0 : (0 : Int) ≤ (k : Int) := Int.natCast_nonneg _
        have hk1 : (k : Int) < (n : Int) := by omega
        have hszr := hb.size
        have hg0 : w.heap.size < wr.heap.size := (ho.lt w.heap.size rfl).2
        rcases hse with ⟨hv, hL0, hpc⟩ | ⟨ad', c2, hv, hcs⟩
        · simp only [Value.slice.injEq] at hv
          obtain ⟨rfl, hL, rfl⟩ := hv
          rw [hL] at hc
          clear ho
          go_wp2
          go_roundw
          case rel => exact ⟨k + 1, us, by go_num, by omega, HO, rows_skip HR.out HZ.out HRK.out hL0 hlt, fun j hj hjn => HZ.out j (by omega) hjn, hb⟩
          case measure => simp [intOf]; omega
        · simp only [Value.slice.injEq, true_and] at hv
          obtain ⟨rfl, rfl⟩ := hv
          obtain ⟨L, hL⟩ : ∃ L, L = row.length := ⟨_, rfl⟩
          rw [← hL] at hc hrl
          have HLr : Hid (L = row.length) := hL
          have HCS : Hid (∀ j u, (pcells row)[j]? = some u → wr.cell? (ad'.add j) = some u) := hcs
          clear hL hcs ho
          go_wp2_with (first
            | (at_make; refine wpList_make_full _ rfl _ _ 42 rfl (w.heap.size + 1) 76 i76 (.agg #[.int .i64 0, .int .i64 0]) 2 Try.underlying42 hi76 hy0 hy1 _ _ _ _ L rfl rfl rfl rfl (by rw [hy2]; omega) (by unfold maxLen; omega) (by omega) ?_; intro w2 hown2 hgrow2; have hc2 := hgrow2.cell hc (by simp)))
          have hsrc : ∀ j v, (pcells row)[j]? = some v → w2.cell? (ad'.add j) = some v := fun j v hj => hgrow2.cell (HCS.out j v hj) (by simp)
          obtain ⟨w3, hrun, hown3, hgrow3⟩ := run_copy_own (P := Try.prog) w2 42 42 3 76 i76 2 Try.underlying42 hi76 hy1 (w.heap.size + 1) wr.heap.size L L ad' c' _ hown2 (pcells row) (by rw [pcells_length, HLr.out]) hsrc (pcells_oneCell _)
          clear hsrc hown2 HCS hc2 hc
          rw [hrun]
          clear hrun
          have hb3 : Below wr.heap.size wr w3 := ((Below.refl wr.heap.size wr).grown hgrow2 (Nat.le_refl _) (by simp)).grown hgrow3 hgrow2.size (by simp)
          clear hgrow2 hgrow3
          have ho3 := ownsRow_below HO hb3 (Nat.le_refl _)
          have kc : w3.cell? ⟨w.heap.size, k, none⟩ = some (.slice none 0 0) := (ho3.cellAt k (by omega)).trans (HZ.out k (Nat.le_refl _) hlt)
          have kf : w3.frozen? ⟨w.heap.size, k, none⟩ = false := ho3.frozenAt k
          rw [HLr.out] at hown3
          obtain ⟨us', R1, R2, R3, _⟩ := rows_next HO HR.out HZ.out hb3 HRK.out hown3 hlt
          rw [← HLr.out] at R1 R2
          have hb4 : Below w.heap.size w w3 := hb.trans (hb3.mono hszr)
          clear ho3 hown3 HO hb3
          go_wp2
          go_roundw
          case rel => exact ⟨k + 1, us', by go_num, by omega, R1, R2, R3, hb4.setCell (Nat.le_refl _) _⟩
          case measure => simp [intOf]; omega
      · obtain rfl : k = n := by omega
        go_wp2
        go_ret
        exact ⟨_, us, rfl, HO, fun j row hj hr => by
          obtain ⟨u, h1, h2⟩ := HR.out j row hj hr
          exact ⟨u, h1, ownsRow_lower h2 (by omega)⟩, hb⟩

end Go.Proofs.Qxb6605804a
