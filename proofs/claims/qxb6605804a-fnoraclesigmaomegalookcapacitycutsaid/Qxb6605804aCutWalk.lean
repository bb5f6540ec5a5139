import Derived.Test.Qxb6605804aExactWalk
namespace Go.Proofs.Qxb6605804a
open Go.RowKit

theorem head_int (row : List (Int × Int)) : ∃ x : Int, (pcells row ++ [.int .i64 (-1), .int .i64 (-1)])[0]? = some (.int .i64 x) := by
  cases row with
  | nil => exact ⟨-1, rfl⟩
  | cons p r => exact ⟨p.1, rfl⟩

set_option maxHeartbeats 3200000 in
set_option maxRecDepth 100000 in
theorem cut_walk (anarchy fault leader : Int) (ao : Option Addr) (n c : Nat) (Hs : List (List (Int × Int))) (ix step : Int) (mn : Bool) (omega : Int) (w : World) (hs : HeldIn w ao n Hs) (hnil : ao = none → c = 0) :
    Calls Try.prog 4 #[.int .i64 anarchy, .int .i64 fault, .int .i64 leader, .slice ao n c, .int .i64 ix, .int .i64 step, .bool mn, .int .i64 omega] w (Good w) := by
  have HS : Hid (HeldIn w ao n Hs) := hs
  have HN : Hid (ao = none → c = 0) := hnil
  have HL : Hid (Hs.length = n) := hs.1
  clear hs hnil
  go_enter Try.func4, Try.ntmps4
  go_wp2_with fail
  refine (bytes18_any _ _ _ _ _ _ _ _ _ _ Hs _ HS.out).mono ?_
  rintro e w' ⟨r, rfl, rfl, _⟩
  cases r with
  | false =>
    go_wp2
    go_ret
    exact ⟨rfl, Below.refl _ _⟩
  | true =>
    go_wp2_with fail
    refine (heldTooBig_any _ _ _ Hs _ HS.out).mono ?_
    rintro e w' ⟨r, rfl, rfl, hr⟩
    cases r with
    | true =>
      go_wp2
      go_ret
      exact ⟨rfl, Below.refl _ _⟩
    | false =>
      obtain ⟨hn, hsm⟩ := hr rfl
      have HSM : Hid (∀ (j : Nat) (row : List (Int × Int)), Hs[j]? = some row → row.length ≤ 65536) := hsm
      clear hr hsm
      go_wp2_with fail
      refine (lookPremise_any _ _ _ _ _ _).mono ?_
      rintro e w' ⟨r, rfl, rfl, hr⟩
      cases r with
      | false =>
        go_wp2
        go_ret
        exact ⟨rfl, Below.refl _ _⟩
      | true =>
        obtain ⟨p0, p1, hst⟩ := hr rfl
        clear hr
        obtain ⟨i, rfl⟩ := Int.eq_ofNat_of_zero_le p0
        have hin : i < n := by omega
        clear p0 p1
        go_wp2_with fail
        refine (cloneHeld_any ao n c Hs w HS.out HN.out hn HSM.out).mono ?_
        rintro e w1 ⟨v, us, rfl, o1, r1, B1⟩
        obtain ⟨g1, c1, hv, _, _, _⟩ := owns_at2 o1 (by omega)
        rw [hv] at o1
        rw [hv]
        clear hv HS HN
        go_wp2_with fail
        refine (toHeld_any _ g1 n c1 us Hs w1 o1 r1 HL.out hn HSM.out).mono ?_
        rintro e w2 ⟨us2, rfl, o2, r2, rm2, B2⟩
        have o1' := ownsRow_below o1 B2 (Nat.le_refl _)
        have r1' := r1.below B2
        have BW2 := B1.trans (B2.mono B1.size)
        clear o1 r1 B1 B2
        go_wp2_with fail
        refine (newS_any anarchy fault leader _ _ _ w2).mono ?_
        rintro e w3 ⟨G, rfl, hG0, hG, hO, B3⟩
        have o1 := ownsRow_below o1' B3 (Nat.le_refl _)
        have r1 := r1'.below B3
        have o2' := ownsRow_below o2 B3 (Nat.le_refl _)
        have r2' := r2.below B3
        have BW3 := BW2.trans (B3.mono BW2.size)
        clear o1' r1' o2 r2 B3 BW2
        go_wp2_with fail
        refine (move_any mn omega w3).mono ?_
        rintro e w4 ⟨m, rfl, hM, B4⟩
        have o1' := ownsRow_below o1 B4 (Nat.le_refl _)
        have r1' := r1.below B4
        have o2 := ownsRow_below o2' B4 (Nat.le_refl _)
        have r2 := r2'.below B4
        have hO' := hO.below B4 hG
        have hG4 : G < w4.heap.size := by have := B4.size; omega
        have BW4 := BW3.trans (B4.mono BW3.size)
        clear o1 r1 o2' r2' B4 BW3 hO hG
        obtain ⟨row, hrow⟩ : ∃ row, Hs[i]? = some row := ⟨_, List.getElem?_eq_getElem (by rw [HL.out]; exact hin)⟩
        obtain ⟨gr, hgr⟩ := rm2 i row hin hrow
        have hrl := HSM.out i row hrow
        have hc := (o2.cellAt i (by omega)).trans hgr
        have hgh : w1.heap.size < w4.heap.size := (o2.lt w1.heap.size rfl).2
        have hk2 : ∀ W : World, Below w4.heap.size w4 W → Calls Try.prog 15 #[.pointer (some ⟨G, 0, none⟩), .int .i64 i, .int .i64 step, .pointer m] W (Looked W (lookB anarchy fault leader i step mn omega) gr row.length) := fun W hW =>
          zlook_any G w1.heap.size n n gr row.length i anarchy fault leader step omega mn m W (hO'.below hW hG4) (hM.below hW) hin ((hW.cell (p := ⟨w1.heap.size, i, none⟩) hgh).trans hc) hrl hst (by have := hW.size; omega) (by have := hW.size; omega)
        obtain ⟨u2, hu2, ou2⟩ := r2 i row hin hrow
        rw [hgr] at hu2
        obtain rfl := Option.some.inj hu2
        obtain ⟨u1, hu1, ou1⟩ := r1' i row hin hrow
        obtain ⟨au, cu, rfl⟩ : ∃ a c, u1 = .slice a row.length c := by
          rcases ou1.2 with ⟨h1, h2⟩ | ⟨g', cap, cur, h1, _⟩
          · exact ⟨none, 0, by rw [h1, h2]⟩
          · exact ⟨_, _, h1⟩
        have kc1 := (o1'.cellAt i (by omega)).trans hu1
        have hg1 : g1 < w4.heap.size := (o1'.lt g1 rfl).2
        have hq : ∀ W : World, (∀ b o, b < w4.heap.size → W.cell? ⟨b, o, none⟩ = w4.cell? ⟨b, o, none⟩) → Calls Try.prog 17 #[.slice (some ⟨gr, 0, none⟩) row.length row.length, .slice au row.length cu] W fun e w' => e = .returned (.bool true) ∧ ∃ m, w' = W.drewN m := fun W hW => match_rows ou2 ou1 hrl hW
        have hgr4 : gr < w4.heap.size := (ou2.lt gr rfl).2
        have hold : ∀ j u, (pcells row)[j]? = some u → w4.cell? ⟨gr, j, none⟩ = some u := fun j u hj => by
          rw [ou2.cellAt j (by have := (List.getElem?_eq_some_iff.1 hj).1; rw [pcells_length] at this; exact this)]
          exact hj
        have hpl := pcells_length row
        obtain ⟨x, hx⟩ := head_int row
        obtain ⟨xs, hxs⟩ : ∃ xs, xs = pcells row := ⟨_, rfl⟩
        rw [← hxs] at hold hpl hx
        obtain ⟨L, hL⟩ : ∃ L, L = row.length := ⟨_, rfl⟩
        rw [← hL] at hk2 kc1 hq hpl hrl
        obtain ⟨bb, hbb⟩ : ∃ bb, bb = lookB anarchy fault leader i step mn omega := ⟨_, rfl⟩
        rw [← hbb] at hk2
        have HOLD : Hid (∀ j u, xs[j]? = some u → w4.cell? ⟨gr, j, none⟩ = some u) := hold
        have HPL : Hid (xs.length = L * 2) := hpl
        have HX : Hid ((xs ++ [.int .i64 (-1), .int .i64 (-1)])[0]? = some (.int .i64 x)) := hx
        have HONE : Hid (∀ u ∈ xs, u.oneCell' = true) := by show ∀ u ∈ xs, _; rw [hxs]; exact pcells_oneCell row
        have HK2 : Hid (∀ W : World, Below w4.heap.size w4 W → Calls Try.prog 15 #[.pointer (some ⟨G, 0, none⟩), .int .i64 i, .int .i64 step, .pointer m] W (Looked W bb gr L)) := hk2
        have HQ : Hid (∀ W : World, (∀ b o, b < w4.heap.size → W.cell? ⟨b, o, none⟩ = w4.cell? ⟨b, o, none⟩) → Calls Try.prog 17 #[.slice (some ⟨gr, 0, none⟩) L L, .slice au L cu] W fun e w' => e = .returned (.bool true) ∧ ∃ m, w' = W.drewN m) := hq
        clear hk2 hq hL hbb hxs hold hpl hx ou1 ou2 hu1 hu2 hgr hc rm2 r1' r2 o1' o2 hO' hM hrow hG0 hgh HSM
        have hi0 : (0 : Int) ≤ (i : Int) := Int.natCast_nonneg _
        have hi1 : (i : Int) < (n : Int) := by omega
        obtain ⟨i44, hi44, hy0, hy1, hy2⟩ := info_parts Try.info44
        go_wp2_with fail
        refine (HK2.out w4 (Below.refl _ _)).mono ?_
        rintro e w5 ⟨rfl, B5⟩
        have hs45 := B5.size
        have hg15 : g1 < w5.heap.size := by omega
        go_wp2_with (at_builtin; refine wpList_append_grows _ rfl _ _ 35 rfl 44 i44 (.agg #[.int .i64 0, .int .i64 0]) 2 16 Try.underlying35 hi44 hy0 hy1 hy2 rfl (by decide) (some ⟨gr, 0, none⟩) L L xs rfl (by simp) HPL.out ?d2 ⟨w5.heap.size + 1, 0, none⟩ 1 1 [.int .i64 (-1), .int .i64 (-1)] rfl rfl ?d3 ?d4 (by omega) (by unfold maxLen; omega) (by omega) ?_)
        case d2 =>
          intro b hb j u hj
          obtain rfl := Option.some.inj hb
          rw [Addr.add_lit, Nat.zero_add]
          have h4 := HOLD.out j u hj
          have h5 := (B5.cell (p := ⟨gr, j, none⟩) hgr4).trans h4
          exact (World.cell?_alloc_past _ _ _ (by simp; omega)).trans ((World.cell?_alloc_past _ _ _ (by omega)).trans h5)
        case d3 =>
          intro j u hj
          match j, hj with
          | 0, hj => simp at hj; subst hj; rw [Addr.add_lit]; exact (World.cell?_alloc_at _ _ _ _ (by simp)).trans rfl
          | 1, hj => simp at hj; subst hj; rw [Addr.add_lit]; exact (World.cell?_alloc_at _ _ _ _ (by simp)).trans rfl
        case d4 => intro u hu; simp at hu; subst hu; rfl
        intro vq w6 oq hgq
        obtain ⟨gq, cq, hvq, hgq0, hgq1, kq⟩ := owns_at2 oq (by omega)
        have kq0 : w6.cell? ⟨gq, 0, none⟩ = some (.int .i64 x) := (kq 0 (by omega)).trans HX.out
        rw [hvq] at oq
        have kf0 := oq.frozenAt 0
        have kb : w6.cell? ⟨w5.heap.size, 0, none⟩ = some (.bool bb) := by
          refine hgq.cell ?_ (by simp)
          exact (World.cell?_alloc_past _ _ _ (by simp)).trans ((World.cell?_alloc_new _ _ _ _).trans rfl)
        have B6 : Below w5.heap.size w5 w6 := (((Below.refl w5.heap.size w5).alloc (Nat.le_refl _) _).alloc (by simp) _).grown hgq (by simp; omega) (by simp)
        have B46 : Below w4.heap.size w4 w6 := B5.trans (B6.mono hs45)
        have BQ := B46.setCell (p := ⟨gq, 0, none⟩) (by show w4.heap.size ≤ gq; omega) (.int .i64 (wrap64 (x + 1)))
        have kbq : (w6.setCell ⟨gq, 0, none⟩ (.int .i64 (wrap64 (x + 1)))).cell? ⟨w5.heap.size, 0, none⟩ = some (.bool bb) := by
          have hne : w5.heap.size ≠ gq := by omega
          exact (World.cell?_of_block (w := w6) (a := ⟨w5.heap.size, 0, none⟩) (Below.heap_setCell _ _ _ _ hne)).trans kb
        have hdq : w5.heap.size < (w6.setCell ⟨gq, 0, none⟩ (.int .i64 (wrap64 (x + 1)))).heap.size := by
          have := hgq1
          simp [World.setCell]; omega
        have hc2 := HK2.out _ BQ
        rw [hvq]
        clear hvq kq oq hgq B6 B46 kb HX HOLD HPL HONE HK2
        go_wp2_with fail
        refine hc2.mono ?_
        rintro e w7 ⟨rfl, B7⟩
        have kb7 := (B7.cell (p := ⟨w5.heap.size, 0, none⟩) hdq).trans kbq
        have B47 := BQ.trans (B7.mono BQ.size)
        have kc7 := (B47.cell (p := ⟨g1, i, none⟩) hg1).trans kc1
        have hs47 := B47.size
        have hg17 : g1 < w7.heap.size := by omega
        have hd7 : w5.heap.size < w7.heap.size := Nat.lt_of_lt_of_le hdq B7.size
        have BW7 := BW4.trans (B47.mono BW4.size)
        have hsz7 := BW7.size
        clear hc2 BQ kbq B7 hdq kq0 kf0 kc1
        go_wp2_with fail
        go_quiet ((go_at_call 17; exact Calls.quiet_of (HQ.out _ (fun b o h => (World.cell?_alloc_past _ _ _ (by omega)).trans (B47.cell (p := ⟨b, o, none⟩) h)))))
        go_wp2
        go_ret
        exact ⟨rfl, below_drewN' (BW7.alloc hsz7 _) _⟩

end Go.Proofs.Qxb6605804a
