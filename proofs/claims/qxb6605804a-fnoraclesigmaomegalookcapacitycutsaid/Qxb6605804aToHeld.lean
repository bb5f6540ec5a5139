import Derived.Test.Qxb6605804aHeldClone
import Derived.Deep.RegionHeld3
import Derived.Deep.DrawnRows
namespace Go.Proofs.Qxb6605804a
open Go.RowKit
attribute [local go_sem ↓] Go.wp_at_zero Go.wp_at_succ

/-- Each of the first k rows has room for one pair more. -/
def Roomy (Hs : List (List (Int × Int))) (us : List Value) (k : Nat) : Prop :=
  ∀ (j : Nat) (row : List (Int × Int)), j < k → Hs[j]? = some row → ∃ g, us[j]? = some (.slice (some ⟨g, 0, none⟩) row.length (row.length + 1))

/-- What zzToHeld leaves. -/
def ToHeld (w : World) (n : Nat) (Hs : List (List (Int × Int))) (e : Ending) (w' : World) : Prop :=
  ∃ us, e = .returned (.slice (some ⟨w.heap.size, 0, none⟩) n n) ∧ w'.ownsRow w.heap.size 35 1 (.slice (some ⟨w.heap.size, 0, none⟩) n n) n us ∧ RowsOwn w' (w.heap.size + 1) 44 Hs us n ∧ Roomy Hs us n ∧ Below w.heap.size w w'

theorem make_room (L : Nat) (hL : L ≤ 65536) : ∃ MC : Array Value, MC.size = (L + 1) * 2 ∧ ∀ W : World, (Instr.makeSlice 35 (.int .i64 (L : Int)) (.int .i64 ((L : Int) + 1))).run Try.prog W = .ok (.slice (some ⟨W.heap.size, 0, none⟩) L (L + 1)) (W.alloc (.cells MC 44)) := by
  obtain ⟨i, hi, hz0, hz1, hz2⟩ := info_parts Try.info44
  refine ⟨madeCells (Value.agg #[.int .i64 0, .int .i64 0]).cells ((L + 1) * 2), size_madeCells _ _, fun W => ?_⟩
  have h := run_make (P := Try.prog) W 35 44 i _ Try.underlying35 hi hz0 .i64 .i64 (L : Int) ((L : Int) + 1) (by omega) (by omega) (by rw [hz2]; omega) (by omega)
  rw [hz1, show ((L : Int) + 1).toNat = L + 1 by omega, Int.toNat_natCast] at h
  exact h

theorem room_owned {w : World} {B L : Nat} {MC : Array Value} (hM : MC.size = (L + 1) * 2) (hB : B ≤ w.heap.size) (hL : L ≤ 65536) :
    ((w.alloc (.cells MC 44)).drew).ownsRow B 44 2 (.slice (some ⟨w.heap.size, 0, none⟩) L (L + 1)) L (MC.toList.take (L * 2)) :=
  ⟨by rw [List.length_take, Array.length_toList]; omega, .inr ⟨w.heap.size, L + 1, MC, rfl, hB, heap_alloc_new w _, by omega, by unfold maxLen; omega, hM, rfl⟩⟩

theorem owns_at2 {w : World} {B : Nat} {e : TypeId} {size : Nat} {v : Value} {n : Nat} {xs : List Value} (h : w.ownsRow B e size v n xs) (hn : 0 < n) :
    ∃ g c, v = .slice (some ⟨g, 0, none⟩) n c ∧ B ≤ g ∧ g < w.heap.size ∧ ∀ j, j < n * size → w.cell? ⟨g, j, none⟩ = xs[j]? := by
  have h' := h
  rcases h'.2 with ⟨rfl, rfl⟩ | ⟨g, cap, cur, rfl, hb, hg, _⟩
  · omega
  · exact ⟨g, cap, rfl, hb, (Array.getElem?_eq_some_iff.1 hg).1, h.cellAt⟩

theorem cell_two {w : World} {g gr o o1 o2 : Nat} {x y v : Value} (h : w.cell? ⟨g, o, none⟩ = some v) (hne : g ≠ gr) : ((w.setCell ⟨gr, o1, none⟩ x).setCell ⟨gr, o2, none⟩ y).drew.cell? ⟨g, o, none⟩ = some v := by
  have e : ((w.setCell ⟨gr, o1, none⟩ x).setCell ⟨gr, o2, none⟩ y).heap[g]? = w.heap[g]? := by
    rw [Below.heap_setCell _ _ _ _ hne, Below.heap_setCell _ _ _ _ hne]
  exact (World.cell?_of_block (w := w) (a := ⟨g, o, none⟩) e).trans h

theorem set_take {xs ps : List Value} {m : Nat} {a b : Value} (hx : xs.take (m * 2) = ps.take (m * 2)) (hl : m * 2 + 1 < xs.length) (h0 : ps[m * 2]? = some a) (h1 : ps[m * 2 + 1]? = some b) :
    ((xs.set (m * 2) a).set (m * 2 + 1) b).take ((m + 1) * 2) = ps.take ((m + 1) * 2) := by
  apply List.ext_getElem?
  intro j
  rw [List.getElem?_take, List.getElem?_take]
  by_cases hj : j < (m + 1) * 2
  · rw [if_pos hj, if_pos hj]
    by_cases hj1 : j = m * 2 + 1
    · subst hj1
      rw [List.getElem?_set_self (by simpa using hl), h1]
    · rw [List.getElem?_set_ne (by omega)]
      by_cases hj0 : j = m * 2
      · subst hj0
        rw [List.getElem?_set_self (by omega), h0]
      · rw [List.getElem?_set_ne (by omega)]
        have h := congrArg (fun l => l[j]?) hx
        simp only [List.getElem?_take] at h
        rwa [if_pos (by omega), if_pos (by omega)] at h
  · rw [if_neg hj, if_neg hj]

set_option maxHeartbeats 1600000 in
set_option maxRecDepth 100000 in
theorem toHeld_any (B g n c : Nat) (us : List Value) (Hs : List (List (Int × Int))) (w : World) (hv : w.ownsRow B 42 1 (.slice (some ⟨g, 0, none⟩) n c) n us) (hrows : RowsOwn w B 76 Hs us n) (hl : Hs.length = n) (hn : n ≤ 65536)
    (hsm : ∀ (j : Nat) (row : List (Int × Int)), Hs[j]? = some row → row.length ≤ 65536) :
    Calls Try.prog 13 #[.slice (some ⟨g, 0, none⟩) n c, .int .i64 1] w (ToHeld w n Hs) := by
  have HL : Hid (Hs.length = n) := hl
  have HSM : Hid (∀ (j : Nat) (row : List (Int × Int)), Hs[j]? = some row → row.length ≤ 65536) := hsm
  have hgl : g < w.heap.size := (hv.lt g rfl).2
  have HV := hv
  have HROW : Hid (RowsOwn w B 76 Hs us n) := hrows
  clear hl hsm hv hrows
  obtain ⟨i35, hi35, hz0, hz1, hz2⟩ := info_parts Try.info35
  go_enter Try.func13, Try.ntmps13
  go_wp2_with (first
    | (at_make; refine wpList_make_full _ rfl _ _ 27 rfl w.heap.size 35 i35 (.slice none 0 0) 1 Try.underlying27 hi35 hz0 hz1 _ _ _ _ n rfl rfl rfl rfl (by rw [hz2]; omega) (by unfold maxLen; omega) (Nat.le_refl _) ?_; intro w1 hown1 hgrow1))
  have hmc : (madeCells (Value.slice none 0 0).cells (n * 1)).toList = List.replicate n (.slice none 0 0) := by rw [Nat.mul_one]; exact toList_madeCells_one _ _
  rw [hmc] at hown1
  clear hmc
  have hb1 := below_of_grown hgrow1
  clear hgrow1
  go_loopw [6] (fun vj wr => ∃ (k : Nat) (vs : List Value), vj = .int .i64 k ∧ k ≤ n ∧ wr.ownsRow w.heap.size 35 1 (.slice (some ⟨w.heap.size, 0, none⟩) n n) n vs ∧ RowsOwn wr (w.heap.size + 1) 44 Hs vs k ∧ (∀ j, k ≤ j → j < n → vs[j]? = some (.slice none 0 0)) ∧ Roomy Hs vs k ∧ Below w.heap.size w wr) (fun vj _ => n - (intOf vj).toNat)
  case atStart => exact ⟨0, _, rfl, Nat.zero_le _, hown1, fun j row hj => absurd hj (Nat.not_lt_zero _), fun j _ hj => by simp [hj], fun j row hj => absurd hj (Nat.not_lt_zero _), hb1⟩
  case round =>
    clear hown1 hb1
    obtain ⟨k, vs, rfl, hk, ho, hr, hz, hro, hb⟩ := hrel
    obtain ⟨wo, rfl⟩ : ∃ wo, wo = wr := ⟨_, rfl⟩
    have HO := ho
    have HR : Hid (RowsOwn wo (w.heap.size + 1) 44 Hs vs k) := hr
    have HZ : Hid (∀ j, k ≤ j → j < n → vs[j]? = some (.slice none 0 0)) := hz
    have HRO : Hid (Roomy Hs vs k) := hro
    clear hr hz hro
    by_cases hlt : k < n
    · obtain ⟨row, hrk⟩ : ∃ row, Hs[k]? = some row := ⟨_, List.getElem?_eq_getElem (by rw [HL.out]; exact hlt)⟩
      obtain ⟨u, hu1, hu2⟩ := HROW.out k row hlt hrk
      have hrl := HSM.out k row hrk
      obtain ⟨au, cu, rfl⟩ : ∃ a c, u = .slice a row.length c := by
        rcases hu2.2 with ⟨h1, h2⟩ | ⟨g', cap, cur, h1, _⟩
        · exact ⟨none, 0, by rw [h1, h2]⟩
        · exact ⟨_, _, h1⟩
      have hc : w.cell? ⟨g, k, none⟩ = some (.slice au row.length cu) := (HV.cellAt k (by omega)).trans hu1
      rw [← hb.cell (p := ⟨g, k, none⟩) hgl] at hc
      obtain ⟨L, hL⟩ : ∃ L, L = row.length := ⟨_, rfl⟩
      have HU := hu2
      rw [← hL] at hc hrl
      have HLr : Hid (L = row.length) := hL
      have HRK : Hid (Hs[k]? = some row) := hrk
      clear hL hrk hu1 hu2 ho
      have hk0 : (0 : Int) ≤ (k : Int) := Int.natCast_nonneg _
      have hk1 : (k : Int) < (n : Int) := by omega
      have hszr := hb.size
      have hg0 : w.heap.size < wo.heap.size := (HO.lt w.heap.size rfl).2
      have hgr : g < wo.heap.size := by omega
      obtain ⟨MC, hMC, hmk⟩ := make_room L hrl
      have HMC : Hid (MC.size = (L + 1) * 2) := hMC
      clear hMC
      have hwr : IntKind.i64.wrap ((L : Int) + 1) = (L : Int) + 1 := by rw [IntKind.wrap_i64]; omega
      go_wp2_with fail
      go_region_held3 (fun w' => w'.cell? ⟨g, k, none⟩ = some (.slice au L cu)) (go_keep) (fail)
      clear hmk hwr
      have own0 := room_owned (w := wo) (B := w.heap.size + 1) (L := L) (MC := MC) HMC.out (by omega) hrl
      have hb2 : Below wo.heap.size wo (wo.alloc (.cells MC 44)).drew := ((Below.refl _ _).alloc (Nat.le_refl _) _).drew
      go_wp2_with fail
      go_loopw [8] (fun vk wr => ∃ (m : Nat) (xs : List Value), vk = .int .i64 m ∧ m ≤ L ∧ wr.ownsRow (w.heap.size + 1) 44 2 (.slice (some ⟨wo.heap.size, 0, none⟩) L (L + 1)) L xs ∧ xs.take (m * 2) = (pcells row).take (m * 2) ∧ Below wo.heap.size wo wr) (fun vk _ => L - (intOf vk).toNat)
      case atStart => exact ⟨0, _, rfl, Nat.zero_le _, own0, by simp, hb2⟩
      case round =>
        clear own0 hb2
        obtain ⟨m, xs, rfl, hm, hox, htk, hbx⟩ := hrel
        have HTK : Hid (xs.take (m * 2) = (pcells row).take (m * 2)) := htk
        clear htk
        have hcx := (hbx.cell (p := ⟨g, k, none⟩) hgr).trans hc
        have HOX := hox
        have hgrx : wo.heap.size < wr.heap.size := (hox.lt wo.heap.size rfl).2
        by_cases hmL : m < L
        · obtain ⟨⟨p1, p2⟩, hpm⟩ : ∃ p, row[m]? = some p := ⟨_, List.getElem?_eq_getElem (by rw [← HLr.out]; exact hmL)⟩
          obtain ⟨gp, dp, hvp, _, hgp, kp⟩ := owns_at2 HU (by rw [← HLr.out]; omega)
          simp only [Value.slice.injEq, true_and] at hvp
          obtain ⟨rfl, rfl⟩ := hvp
          have hbwx : Below w.heap.size w wr := hb.trans (hbx.mono hszr)
          obtain ⟨t0, t1⟩ := pcells_get row m _ hpm
          have e0 : wr.cell? ⟨gp, m * 2, none⟩ = some (.int .i64 p1) := by rw [hbwx.cell (p := ⟨gp, m * 2, none⟩) hgp, kp _ (by rw [← HLr.out]; omega)]; exact t0
          have e1 : wr.cell? ⟨gp, m * 2 + 1, none⟩ = some (.int .i64 p2) := by rw [hbwx.cell (p := ⟨gp, m * 2 + 1, none⟩) hgp, kp _ (by rw [← HLr.out]; omega)]; exact t1
          have hxl : xs.length = L * 2 := hox.1
          obtain ⟨x0, f0⟩ : ∃ v, wr.cell? ⟨wo.heap.size, m * 2, none⟩ = some v := ⟨_, (hox.cellAt _ (by omega)).trans (List.getElem?_eq_getElem (by omega))⟩
          obtain ⟨x1, f1⟩ : ∃ v, wr.cell? ⟨wo.heap.size, m * 2 + 1, none⟩ = some v := ⟨_, (hox.cellAt _ (by omega)).trans (List.getElem?_eq_getElem (by omega))⟩
          have z0 := hox.frozenAt (m * 2)
          have z1 := hox.frozenAt (m * 2 + 1)
          have HPM : Hid (row[m]? = some (p1, p2)) := hpm
          have hm0 : (0 : Int) ≤ (m : Int) := Int.natCast_nonneg _
          have hm1 : (m : Int) < (L : Int) := by omega
          have hgpr : gp < wo.heap.size := by omega
          have hne1 : gp ≠ wo.heap.size := by omega
          have hne2 : g ≠ wo.heap.size := by omega
          clear hpm t0 t1 kp hxl hox hc
          go_wp2_with fail
          go_region_held3 (fun w' => w'.cell? ⟨g, k, none⟩ = some (.slice (some ⟨gp, 0, none⟩) L cu) ∧ w'.cell? ⟨gp, m * 2, none⟩ = some (.int .i64 p1) ∧ w'.cell? ⟨gp, m * 2 + 1, none⟩ = some (.int .i64 p2)) (first | exact ⟨cell_two hcx hne2, cell_two e0 hne1, cell_two e1 hne1⟩ | go_keep) (fail)
          have R1 := (((HOX.stored (m * 2) (.int .i64 p1)).1).stored (m * 2 + 1) (.int .i64 p2)).1.drew
          have R2 := set_take (m := m) HTK.out (by rw [HOX.1]; omega) (pcells_get row m _ HPM.out).1 (pcells_get row m _ HPM.out).2
          have R3 : Below wo.heap.size wo ((wr.setCell ⟨wo.heap.size, m * 2, none⟩ (.int .i64 p1)).setCell ⟨wo.heap.size, m * 2 + 1, none⟩ (.int .i64 p2)).drew := ((hbx.setCell (Nat.le_refl _) _).setCell (Nat.le_refl _) _).drew
          clear HOX e0 e1 f0 f1 z0 z1 hcx
          go_wp2
          go_roundw
          case rel => exact ⟨m + 1, _, by go_num, by omega, R1, R2, R3⟩
          case measure => simp [intOf]; omega
        · obtain rfl : m = L := by omega
          have hxp : xs = pcells row := by
            have h := HTK.out
            have h1 : xs.length = m * 2 := HOX.1
            have h2 : (pcells row).length = m * 2 := by rw [pcells_length, HLr.out]
            rw [List.take_of_length_le (by omega), List.take_of_length_le (by omega)] at h
            exact h
          rw [hxp] at HOX
          clear hxp HTK hox hc
          have ho3 := ownsRow_below HO hbx (Nat.le_refl _)
          have kc : wr.cell? ⟨w.heap.size, k, none⟩ = some (.slice none 0 0) := (ho3.cellAt k (by omega)).trans (HZ.out k (Nat.le_refl _) hlt)
          have kf : wr.frozen? ⟨w.heap.size, k, none⟩ = false := ho3.frozenAt k
          obtain ⟨us', R1, R2, R3, R4, R5⟩ := rows_next HO HR.out HZ.out hbx HRK.out (by rw [← HLr.out]; exact HOX) hlt
          have R6 : Roomy Hs us' (k + 1) := by
            intro j r hj hr'
            by_cases hjk : j = k
            · subst hjk
              rw [HRK.out] at hr'
              obtain rfl := Option.some.inj hr'
              exact ⟨wo.heap.size, by rw [R4, HLr.out]⟩
            · obtain ⟨g', hg'⟩ := HRO.out j r (by omega) hr'
              exact ⟨g', by rw [R5 j hjk]; exact hg'⟩
          have hb4 : Below w.heap.size w wr := hb.trans (hbx.mono hszr)
          clear ho3 HOX HO hbx R4 R5 HRO HR HZ
          go_wp2
          go_roundw
          case rel => exact ⟨k + 1, us', by go_num, by omega, R1, R2, R3, R6, hb4.setCell (Nat.le_refl _) _⟩
          case measure => simp [intOf]; omega
    · obtain rfl : k = n := by omega
      go_wp2
      go_ret
      exact ⟨vs, rfl, HO, HR.out, HRO.out, hb⟩

end Go.Proofs.Qxb6605804a
