import Derived.Test.Qxb6605804aParts
namespace Go.Proofs.Qxb6605804a
open Go.RowKit
attribute [local go_sem ↓] Go.wp_at_zero Go.wp_at_succ

theorem ownOf_succ (i : Int) (R : List (Int × Int × Int)) (k : Nat) (r : Int × Int × Int) (h : R[k]? = some r) : ownOf i (R.take (k + 1)) = ownOf i (R.take k) ++ if r.2.1 = i then [(r.1, 0, r.2.2)] else [] := by
  obtain ⟨hl, rfl⟩ := List.getElem?_eq_some_iff.1 h
  unfold ownOf
  rw [List.take_succ_eq_append_getElem hl, List.flatMap_append]
  simp

theorem own_next {w : World} {B : Nat} {v : Value} {X Y : List (Int × Int × Int)} {s t : Int} (hX : Y = X ++ [(s, (0 : Int), t)])
    (h : w.ownsRow B 73 3 v (X.length + 1) (rcells X ++ [.int .i64 s, .int .i64 0, .int .i64 t])) : w.ownsRow B 73 3 v Y.length (rcells Y) := by
  subst hX
  rw [rcells_append, List.length_append]
  exact h

theorem bytes_at (l : List UInt8) (k : Nat) (hk : k < l.length) : (Lib.byteCells l)[k]? = some (.int .u8 (l[k].toNat : Int)) := by
  simp [Lib.byteCells, hk]

theorem code_last (S steps i : Int) (R : List (Int × Int × Int)) : (Lib.byteCells (code S steps i R))[(code S steps i R).length - 1]? = some (.int .u8 0) := by
  unfold code
  rw [List.length_append, List.length_singleton, Nat.add_sub_cancel, Lib.byteCells_append, List.getElem?_append_right (by simp [Lib.byteCells])]
  simp [Lib.byteCells]

/-- The law answers true, and of old memory nothing has turned. -/
def Fine (w : World) (e : Ending) (w' : World) : Prop := e = .returned (.bool true) ∧ Below w.heap.size w w'

set_option maxHeartbeats 3200000 in
set_option maxRecDepth 100000 in
theorem own_walk (a0 a1 a2 : Option Addr) (n0 c0 n1 c1 n2 c2 : Nat) (steps ix : Int) (zs : List Int) (R : List (Int × Int × Int)) (zb : List Int) (w : World)
    (h0 : Sees w (.slice a0 n0 c0) n0 (zs.map (Value.int .i64))) (hl0 : zs.length = n0) (h1 : Sees w (.slice a1 n1 c1) n1 (rcells R)) (hl1 : R.length = n1)
    (h2 : Sees w (.slice a2 n2 c2) n2 (zb.map (Value.int .u8))) (hl2 : zb.length = n2) :
    Calls Try.prog 8 #[.slice a0 n0 c0, .slice a1 n1 c1, .slice a2 n2 c2, .int .i64 steps, .int .i64 ix] w (Fine w) := by
  have L0 : Hid (zs.length = n0) := hl0
  have L1 : Hid (R.length = n1) := hl1
  have L2 : Hid (zb.length = n2) := hl2
  clear hl0 hl1 hl2
  go_enter Try.func8, Try.ntmps8
  go_wp2_with fail
  refine (bytes35_any _ _ _ _ _ _ _ _ _ _ _ _).mono ?_
  rintro e w' ⟨r, rfl, rfl, hr⟩
  cases r with
  | false =>
    go_wp2
    go_ret
    exact ⟨rfl, Below.refl _ _⟩
  | true =>
    have hsum := hr rfl
    clear hr
    go_wp2_with fail
    refine (tooBig_any _ _ _ _ _ _ _ _ _ _ hsum).mono ?_
    rintro e w' ⟨r, rfl, rfl, hr⟩
    cases r with
    | true =>
      go_wp2
      go_ret
      exact ⟨rfl, Below.refl _ _⟩
    | false =>
      obtain ⟨b0, b1, b2⟩ := hr rfl
      clear hr hsum
      go_wp2_with fail
      refine (premise_any _ _ _ _ _).mono ?_
      rintro e w' ⟨r, rfl, rfl, hr⟩
      cases r with
      | false =>
        go_wp2
        go_ret
        exact ⟨rfl, Below.refl _ _⟩
      | true =>
        obtain ⟨p0, p1⟩ := hr rfl
        clear hr
        obtain ⟨i, rfl⟩ := Int.eq_ofNat_of_zero_le p0
        have hin : i < n0 := by omega
        clear p0 p1
        go_wp2_with fail
        refine (cloneInts_any _ n0 _ w h0 (by rw [List.length_map, L0.out]; omega) (ints_oneCell _ _) (by omega)).mono ?_
        rintro e w1 ⟨v0, rfl, o0, B1⟩
        clear h0
        go_wp2_with fail
        refine (cloneRaises_any _ n1 _ w1 (h1.below B1) (by rw [rcells_length, L1.out]) (rcells_oneCell _) (by omega)).mono ?_
        rintro e w2 ⟨v1, rfl, o1, B2⟩
        clear h1
        have o0 := ownsRow_below o0 B2 (Nat.le_refl _)
        have B2 := B1.trans (B2.mono B1.size)
        clear B1
        go_wp2_with fail
        refine (cloneBytes_any _ n2 _ w2 (h2.below B2) (by rw [List.length_map, L2.out]; omega) (ints_oneCell _ _) (by omega)).mono ?_
        rintro e w3 ⟨v2, rfl, o2, B3⟩
        clear h2
        have o0 := ownsRow_below o0 B3 (Nat.le_refl _)
        have o1 := ownsRow_below o1 B3 (Nat.le_refl _)
        have B3 := B2.trans (B3.mono B2.size)
        clear B2
        go_wp2_with fail
        refine (cloneInts_any _ n0 _ w3 (Sees.of_owns o0) (by rw [List.length_map, L0.out]; omega) (ints_oneCell _ _) (by omega)).mono ?_
        rintro e w4 ⟨u0, rfl, q0, B4⟩
        have o0 := ownsRow_below o0 B4 (Nat.le_refl _)
        have o1 := ownsRow_below o1 B4 (Nat.le_refl _)
        have o2 := ownsRow_below o2 B4 (Nat.le_refl _)
        have B4 := B3.trans (B4.mono B3.size)
        clear B3
        go_wp2_with fail
        refine (toRaises_any _ _ n1 _ w4 o1 (by rw [← L1.out]; exact rcells_triples R) (by omega)).mono ?_
        rintro e w5 ⟨u1, rfl, q1, B5⟩
        have o0 := ownsRow_below o0 B5 (Nat.le_refl _)
        have o1 := ownsRow_below o1 B5 (Nat.le_refl _)
        have o2 := ownsRow_below o2 B5 (Nat.le_refl _)
        have q0 := ownsRow_below q0 B5 (Nat.le_refl _)
        have B5 := B4.trans (B5.mono B4.size)
        clear B4
        obtain ⟨ao0, co0, hv0, -, -⟩ := owns_form q0
        obtain ⟨ao1, co1, hv1, -, -⟩ := owns_form q1
        rw [hv0] at q0
        rw [hv1] at q1
        rw [hv0, hv1]
        clear hv0 hv1
        go_wp2_with fail
        refine (newOracle_any _ _ _ _ _ _ w5).mono ?_
        rintro e w6 ⟨rfl, c6, c11, B6, hs6⟩
        have o0 := ownsRow_below o0 B6 (Nat.le_refl _)
        have o1 := ownsRow_below o1 B6 (Nat.le_refl _)
        have o2 := ownsRow_below o2 B6 (Nat.le_refl _)
        have q0 := ownsRow_below q0 B6 (Nat.le_refl _)
        have q1 := ownsRow_below q1 B6 (Nat.le_refl _)
        have B6 := B5.trans (B6.mono B5.size)
        clear B5
        have hs6' : w5.heap.size < w6.heap.size := by omega
        clear hs6
        go_wp2_with fail
        refine (cloneBytes_any _ n2 _ w6 (Sees.of_owns o2) (by rw [List.length_map, L2.out]; omega) (ints_oneCell _ _) (by omega)).mono ?_
        rintro e w7 ⟨u2, rfl, q2, B7⟩
        have c6 := (B7.cell (p := ⟨w5.heap.size, 6, none⟩) hs6').trans c6
        have c11 := (B7.cell (p := ⟨w5.heap.size, 11, none⟩) hs6').trans c11
        have hc := code31 w6.heap.size w5.heap.size _ _ (.slice ao0 n0 co0) (.slice ao1 n1 co1) u2 n0 n1 n2 i i steps zs R _ w7 rfl hs6' B7.size (ownsRow_below q0 B7 (Nat.le_refl _)) (ownsRow_below q1 B7 (Nat.le_refl _)) (fun k hk => (q0.lt k hk).2) (fun k hk => (q1.lt k hk).2) c6 c11 hin (by omega) (by omega) q2
        clear c6 c11 q2 q0 q1
        obtain ⟨C, hC⟩ : ∃ C, C = code (zs.getD i 0) steps i R := ⟨_, rfl⟩
        rw [← hC] at hc
        have HC : Hid (C = code (zs.getD i 0) steps i R) := hC
        clear hC
        go_wp2_with fail
        refine hc.mono ?_
        rintro e w8 ⟨vg, rfl, og, B8⟩
        have B8' := B7.trans B8
        have o0 := ownsRow_below o0 B8' (Nat.le_refl _)
        have o1 := ownsRow_below o1 B8' (Nat.le_refl _)
        have o2 := ownsRow_below o2 B8' (Nat.le_refl _)
        have BB := B6.trans (B8'.mono B6.size)
        have hcl := code_length (zs.getD i 0) steps i R
        rw [← HC.out, L1.out] at hcl
        clear hc B7 B8 B8' B6 hs6'
        obtain ⟨z, hz⟩ : ∃ z, z = zs.getD i 0 := ⟨_, rfl⟩
        obtain ⟨g0, d0, hv0, _, l0, k0⟩ := owns_at o0 (by omega)
        have kz : w8.cell? ⟨g0, i, none⟩ = some (.int .i64 z) := by
          rw [k0 i (by omega), hz]
          simp [List.getD, show i < zs.length by rw [L0.out]; exact hin]
        have HZ : Hid (z = zs.getD i 0) := hz
        clear hz k0 o0
        obtain ⟨b1, d1, hv1, -, -⟩ := owns_form o1
        obtain ⟨b2, d2, hv2, -, -⟩ := owns_form o2
        obtain ⟨gg, dg, hvg, _, lg, _⟩ := owns_at og (by omega)
        rw [hv1] at o1
        rw [hv2] at o2
        rw [hvg] at og
        rw [hv0, hv1, hv2, hvg]
        clear hv0 hv1 hv2 hvg
        have hr1 : ∀ k r, R[k]? = some r → ∃ g1, b1 = some ⟨g1, 0, none⟩ ∧ g1 < w8.heap.size ∧ w8.cell? ⟨g1, k * 3, none⟩ = some (.int .i64 r.1) ∧ w8.cell? ⟨g1, k * 3 + 1, none⟩ = some (.int .i64 r.2.1) ∧ w8.cell? ⟨g1, k * 3 + 2, none⟩ = some (.int .i64 r.2.2) := by
          intro k r hk
          have hkl : k < R.length := (List.getElem?_eq_some_iff.1 hk).1
          rw [L1.out] at hkl
          obtain ⟨g1, e1, hb, _, lg1, hcc⟩ := owns_at o1 (by omega)
          simp only [Value.slice.injEq, true_and] at hb
          obtain ⟨h0, h1, h2⟩ := rcells_get R k r hk
          exact ⟨g1, hb.1, lg1, (hcc _ (by omega)).trans h0, (hcc _ (by omega)).trans h1, (hcc _ (by omega)).trans h2⟩
        obtain ⟨i0, hi, hz0, hz1, hz2⟩ := info_parts Try.info73
        go_wp2_with (at_make; refine wpList_make_own _ rfl _ _ 62 rfl w8.heap.size 73 i0 (.agg #[.int .i64 0, .int .i64 0, .int .i64 0]) 3 Try.underlying62 hi hz0 hz1 _ _ _ n1 rfl rfl rfl (by rw [hz2]; omega) (by unfold maxLen; omega) (Nat.le_refl _) ?_; intro w9 hown9 hgrow9)
        have hb9 := below_of_grown hgrow9
        clear hgrow9
        go_loopw [13, 14] (fun vo ij wr => ∃ k : Nat, ij = .int .i64 k ∧ k ≤ n1 ∧ wr.ownsRow w8.heap.size 73 3 vo (ownOf i (R.take k)).length (rcells (ownOf i (R.take k))) ∧ Below w8.heap.size w8 wr) (fun _ ij _ => n1 - (intOf ij).toNat)
        case atStart => exact ⟨0, rfl, Nat.zero_le _, by simpa [ownOf, rcells] using hown9, hb9⟩
        case round =>
          clear hown9 hb9
          obtain ⟨k, rfl, hk, hownr, hbr⟩ := hrel
          have hszr := hbr.size
          by_cases hlt : k < n1
          · obtain ⟨⟨s, p, t⟩, hrk⟩ : ∃ r, R[k]? = some r := ⟨_, List.getElem?_eq_getElem (by rw [L1.out]; exact hlt)⟩
            obtain ⟨g1, rfl, lg1, e0, e1, e2⟩ := hr1 k _ hrk
            rw [← hbr.cell (p := ⟨g1, k * 3, none⟩) lg1] at e0
            rw [← hbr.cell (p := ⟨g1, k * 3 + 1, none⟩) lg1] at e1
            rw [← hbr.cell (p := ⟨g1, k * 3 + 2, none⟩) lg1] at e2
            have HS := ownOf_succ i R k _ hrk
            clear hrk hr1
            have hol : (ownOf i (R.take k)).length ≤ 32768 := by
              have h := ownOf_length i (R.take k)
              have h' : (R.take k).length ≤ k := List.length_take_le k R
              omega
            have hk0 : (0 : Int) ≤ (k : Int) := Int.natCast_nonneg _
            have hk1 : (k : Int) < (n1 : Int) := by omega
            have lgr : g1 < wr.heap.size := by omega
            by_cases hp : p = (i : Int)
            · subst hp
              rw [if_pos rfl] at HS
              have HS2 : Hid (ownOf i (R.take (k + 1)) = ownOf i (R.take k) ++ [(s, (0 : Int), t)]) := HS
              clear HS
              have ag := own_ne hownr lg1
              go_wp2_with fail
              go_region_held3 (fun w' => w'.cell? ⟨g1, k * 3, none⟩ = some (.int .i64 s) ∧ w'.cell? ⟨g1, k * 3 + 2, none⟩ = some (.int .i64 t))
                (first
                  | go_keep
                  | (go_split_ands; refine ⟨?_, ?_⟩ <;> (rw [hgrow.cell_far _ (by simp; omega) (Ne.symm ag)]; assumption)))
                (first
                  | (go_at_call 36; refine (mkRaise_any _ _ _ _).mono ?_; rintro e w' ⟨rfl, rfl⟩)
                  | (refine step_append_lies _ (by rfl) _ _ _ (by rfl) w8.heap.size 73 i0 _ 3 24 Try.underlying62 hi hz0 hz1 hz2 rfl (by omega) _ _ _ (by rfl) (((hownr.alloc _).alloc _).drew) ⟨wr.heap.size + 1, 0, none⟩ 1 1 [.int .i64 s, .int .i64 0, .int .i64 t] (by rfl) (by rfl) (World.news_of_block (cs := #[.int .i64 s, .int .i64 0, .int .i64 t]) (t := 73) (fr := (0, 0)) (news_two wr _ _ _)) (by simp [Value.oneCell']) (by omega) (by unfold maxLen; omega) (by omega) (by simp; omega) (wr.heap.size + 2) (by simp) ?_; intro gx cp w2 hown2 hgrow hat hltg))
              have hb2 : Below w8.heap.size w8 w2 := (((hbr.alloc hszr _).alloc (by simp; omega) _).drew).grown hgrow (by simp; omega) (fun j hj => (hownr.lt j hj).1)
              have R2 := own_next HS2.out hown2
              clear hgrow hownr hbr hown2 e0 e1 e2
              go_wp2
              go_roundw
              case rel => exact ⟨k + 1, by go_num, by omega, R2, hb2⟩
              case measure => simp [intOf]; omega
            · have hd : (p == (i : Int)) = false := by simpa using hp
              rw [if_neg hp, List.append_nil] at HS
              have HS2 : Hid (ownOf i (R.take (k + 1)) = ownOf i (R.take k)) := HS
              clear HS
              go_wp2
              go_roundw
              case rel => exact ⟨k + 1, by go_num, by omega, by rw [HS2.out]; exact hownr, hbr⟩
              case measure => simp [intOf]; omega
          · obtain rfl : k = n1 := by omega
            clear hr1 hk hlt
            rw [← L1.out, List.take_length] at hownr
            have hol := ownOf_length i R
            rw [L1.out] at hol
            obtain ⟨bo, dd, hvo, -, -⟩ := owns_form hownr
            rw [hvo] at hownr
            rw [hvo]
            clear hvo
            obtain ⟨Ro, hRo⟩ : ∃ Ro, Ro = ownOf i R := ⟨_, rfl⟩
            rw [← hRo] at hownr hol ⊢
            have HRo : Hid (Ro = ownOf i R) := hRo
            clear hRo
            have kzr := (hbr.cell (p := ⟨g0, i, none⟩) l0).trans kz
            have hi0 : (0 : Int) ≤ (i : Int) := Int.natCast_nonneg _
            have hi1 : (i : Int) < (n0 : Int) := by omega
            have q0 : (wr.alloc (.cells #[.int .i64 z] 3)).ownsRow wr.heap.size 3 1 (.slice (some ⟨wr.heap.size, 0, none⟩) 1 1) 1 ([z].map (Value.int .i64)) := World.ownsRow_lit wr #[.int .i64 z] 1 (Nat.le_refl _) (by unfold maxLen; omega) rfl
            have q1 := hownr.alloc (.cells #[.int .i64 z] 3)
            have BA := hbr.alloc hszr (.cells #[.int .i64 z] 3)
            clear hbr hownr kz
            go_wp2_with fail
            refine (newOracle_any _ _ _ _ _ _ (wr.alloc (.cells #[.int .i64 z] 3))).mono ?_
            rintro e wA ⟨rfl, c6, c11, BB2, hsA⟩
            have q0 := ownsRow_below q0 BB2 (Nat.le_refl _)
            have q1 := ownsRow_below q1 BB2 (Nat.le_refl _)
            have BA := BA.trans (BB2.mono BA.size)
            have hlA : (wr.alloc (.cells #[.int .i64 z] 3)).heap.size < wA.heap.size := by omega
            clear hsA BB2
            obtain ⟨GA, hGA⟩ : ∃ GA, GA = (wr.alloc (.cells #[.int .i64 z] 3)).heap.size := ⟨_, rfl⟩
            rw [← hGA] at c6 c11 hlA ⊢
            clear hGA
            have hc := code31 wA.heap.size GA _ _ _ _ (.slice none 0 0) 1 Ro.length 0 0 0 steps [z] Ro [] wA rfl hlA (Nat.le_refl _) q0 q1 (fun k hk => (q0.lt k hk).2) (fun k hk => (q1.lt k hk).2) c6 c11 (by omega) (by omega) (by omega) (World.ownsRow_nil _ _ _ _)
            have hcC : code ([z].getD 0 0) steps ((0 : Nat) : Int) Ro = C := by
              rw [HRo.out, HC.out, HZ.out]
              exact code_own _ _ _ _
            rw [hcC] at hc
            clear hcC q0 q1 c6 c11 hlA
            go_wp2_with fail
            refine hc.mono ?_
            rintro e wB ⟨va, rfl, oa, B9⟩
            have BB9 : Below w8.heap.size w8 wB := BA.trans (B9.mono BA.size)
            clear hc BA B9
            have og := ownsRow_below og BB9 (Nat.le_refl _)
            have o2 := ownsRow_below o2 BB9 (Nat.le_refl _)
            have BT := BB.trans (BB9.mono BB.size)
            rw [Nat.zero_add, List.nil_append] at oa
            obtain ⟨ga, da, hva, _, _, ka⟩ := owns_at oa (by omega)
            have klast : wB.cell? ⟨ga, C.length - 1, none⟩ = some (.int .u8 0) := by
              rw [ka _ (by omega), HC.out]
              exact code_last _ _ _ _
            have kall : ∀ j, j < C.length → ∃ x : Int, wB.cell? ⟨gg, n2 + j, none⟩ = some (.int .u8 x) ∧ wB.cell? ⟨ga, j, none⟩ = some (.int .u8 x) := by
              intro j hj
              refine ⟨(C[j].toNat : Int), ?_, ?_⟩
              · rw [og.cellAt _ (by omega), List.getElem?_append_right (by rw [List.length_map, L2.out]; omega), List.length_map, L2.out, Nat.add_sub_cancel_left]
                exact bytes_at C j hj
              · rw [ka _ (by omega)]
                exact bytes_at C j hj
            have hpre := hasPrefix_any _ _ _ _ (n2 + C.length) n2 _ _ wB og o2 (by omega) (by omega) (fun j hj => by
              have hjl : j < zb.length := by rw [L2.out]; exact hj
              refine ⟨zb[j], ?_, ?_⟩
              · rw [List.getElem?_append_left (by simpa using hjl)]; simp [hjl]
              · simp [hjl])
            rw [hva]
            clear hva ka oa og o2 BB BB9 o1 kzr l0 lg
            go_wp2_with (go_at_call 32; refine hpre.mono ?_; rintro e w' ⟨m, rfl, rfl⟩)
            clear hpre klast
            go_loopw [18] (fun ij wx => ∃ j m : Nat, ij = .int .i64 j ∧ j ≤ C.length ∧ wx = wB.drewN m) (fun ij _ => C.length - (intOf ij).toNat)
            case atStart => exact ⟨0, m, rfl, Nat.zero_le _, rfl⟩
            case round =>
              obtain ⟨j, m', rfl, hj, rfl⟩ := hrel
              by_cases hlt : j < C.length
              · obtain ⟨x, k1, k2⟩ := kall j hlt
                have hj0 : (0 : Int) ≤ (j : Int) := Int.natCast_nonneg _
                have hj1 : (j : Int) < (C.length : Int) := by omega
                have hj2 : (0 : Int) ≤ (n2 : Int) + (j : Int) := by omega
                have hj3 : (n2 : Int) + (j : Int) < ((n2 + C.length : Nat) : Int) := by omega
                clear kall
                go_wp2_with fail
                go_quiet (fail)
                go_wp2
                go_roundw
                case rel => exact ⟨j + 1, _, by go_num, by omega, rfl⟩
                case measure => simp [intOf]; omega
              · go_wp2
                go_ret
                exact ⟨rfl, below_drewN BT _⟩

end Go.Proofs.Qxb6605804a
