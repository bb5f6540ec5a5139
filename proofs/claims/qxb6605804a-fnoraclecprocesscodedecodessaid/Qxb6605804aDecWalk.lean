import Derived.Test.Qxb6605804aOwnWalk
import Derived.Test.Qxb6605804aUvarint
import Derived.Laws.DeepNot64
namespace Go.Proofs.Qxb6605804a
open Go.RowKit

set_option maxHeartbeats 400000 in
theorem bytes23_any (a0 a1 a2 : Option Addr) (n0 c0 n1 c1 n2 c2 : Nat) (s i : Int) (w : World) :
    Calls Try.prog 23 #[.slice a0 n0 c0, .slice a1 n1 c1, .slice a2 n2 c2, .int .i64 s, .int .i64 i] w (Says w (Small3 n0 n1 n2)) := by
  by_cases h0 : n0 ≤ 1048576
  · by_cases h1 : n1 ≤ 1048576
    · by_cases h01 : n0 + n1 ≤ 1048576
      · by_cases h2 : n2 ≤ 1048576
        · by_cases h3 : n0 + n1 + n2 ≤ 1048576
          · go_enter Try.func23, Try.ntmps23
            go_wp2
            go_ret
            exact ⟨true, rfl, rfl, fun _ => h3⟩
          · go_enter Try.func23, Try.ntmps23
            go_wp2
            go_ret
            exact ⟨false, rfl, rfl, fun h => by cases h⟩
        · go_enter Try.func23, Try.ntmps23
          go_wp2
          go_ret
          exact ⟨false, rfl, rfl, fun h => by cases h⟩
      · go_enter Try.func23, Try.ntmps23
        go_wp2
        go_ret
        exact ⟨false, rfl, rfl, fun h => by cases h⟩
    · go_enter Try.func23, Try.ntmps23
      go_wp2
      go_ret
      exact ⟨false, rfl, rfl, fun h => by cases h⟩
  · go_enter Try.func23, Try.ntmps23
    go_wp2
    go_ret
    exact ⟨false, rfl, rfl, fun h => by cases h⟩

theorem and_one (u : Nat) (hu : u < 18446744073709551616) : bits .and .u64 (u : Int) 1 = ((u % 2 : Nat) : Int) := by
  have := bits_mask .u64 64 (by decide) wraps_u64 1 (by decide) (u : Int) (by omega) (by omega)
  rw [show (2 : Int) ^ 1 - 1 = 1 by decide] at this
  rw [this]; omega

theorem unzig_any (d : Int) (h0 : -9223372036854775808 ≤ d) (h1 : d ≤ 9223372036854775807) (w : World) :
    Calls Try.prog 34 #[.int .u64 ((Lib.zigzag d : Nat) : Int)] w fun e w' => e = .returned (.int .i64 d) ∧ w' = w := by
  have hu := Lib.zigzag_lt h0 h1
  have ha := and_one (Lib.zigzag d) hu
  by_cases hd : 0 ≤ d
  · have e1 : Lib.zigzag d % 2 = 0 := by unfold Lib.zigzag; rw [if_pos hd]; omega
    have e2 : Lib.zigzag d / 2 = d.toNat := by unfold Lib.zigzag; rw [if_pos hd]; omega
    have E2 : Hid (((Lib.zigzag d : Nat) : Int) / 2 = d) := by show _ = _; omega
    clear e2
    obtain ⟨u, hz⟩ : ∃ u, u = Lib.zigzag d := ⟨_, rfl⟩
    rw [← hz] at hu ha e1 E2 ⊢
    clear hz
    go_enter Try.func34, Try.ntmps34
    go_wp2
    go_ret
    exact ⟨by rw [← E2.out]; rfl, rfl⟩
  · have e1 : Lib.zigzag d % 2 = 1 := by unfold Lib.zigzag; rw [if_neg hd]; omega
    have e2 : Lib.zigzag d / 2 = (-d - 1).toNat := by unfold Lib.zigzag; rw [if_neg hd]; omega
    have E2 : Hid (-1 - ((Lib.zigzag d : Nat) : Int) / 2 = d) := by show _ = _; omega
    clear e2
    obtain ⟨u, hz⟩ : ∃ u, u = Lib.zigzag d := ⟨_, rfl⟩
    rw [← hz] at hu ha e1 E2 ⊢
    clear hz
    have hn : bits .xor .i64 (-1) ((u : Int) / 2) = -1 - (u : Int) / 2 := by
      have := i64_not (u / 2) (by omega)
      simpa using this
    have hne : ((u : Int) % 2 != 0) = true := by simp; omega
    go_enter Try.func34, Try.ntmps34
    go_wp2
    go_ret
    exact ⟨by rw [← E2.out]; rfl, rfl⟩

theorem Bytes.below {w w' : World} {B g P : Nat} {l : List UInt8} (h : Bytes w g P l) (hb : Below B w w') (hg : g < B) : Bytes w' g P l := fun j b hj => (hb.cell (p := ⟨g, P + j, none⟩) hg).trans (h j b hj)

theorem wrapEq (x : Int) : IntKind.i64.wrap x = wrap64 x := by rw [IntKind.wrap_i64]; unfold wrap64; rfl

/-- What is still to be read when k raises are done. -/
def tailOf (S steps i : Int) (R : List (Int × Int × Int)) (k : Nat) : List UInt8 := (R.drop k).flatMap (one S steps i) ++ [0]
theorem tail_pos (S steps i : Int) (R : List (Int × Int × Int)) (k : Nat) : 1 ≤ (tailOf S steps i R k).length := by unfold tailOf; simp
theorem tail_succ (S steps i : Int) (R : List (Int × Int × Int)) (k : Nat) (r : Int × Int × Int) (h : R[k]? = some r) : tailOf S steps i R k = one S steps i r ++ tailOf S steps i R (k + 1) := by
  obtain ⟨hl, rfl⟩ := List.getElem?_eq_some_iff.1 h
  unfold tailOf
  rw [List.drop_eq_getElem_cons hl, List.flatMap_cons, List.append_assoc]

theorem uvarint_at (g n c P0 x E : Nat) (px : Int) (w : World) (hpx : px = (P0 : Int)) (hx : x < 18446744073709551616) (hE : P0 + (Lib.uvarint x).length = E) (hEn : E ≤ n) (hn : n ≤ 140737488355328) (hB : Bytes w g P0 (Lib.uvarint x)) :
    Calls Try.prog 33 #[.slice (some ⟨g, 0, none⟩) n c, .int .i64 px] w (Read w x E) := by
  subst hpx
  exact uvarint_any g n c P0 x E w hx hE hEn hn hB

set_option maxHeartbeats 3200000 in
set_option maxRecDepth 100000 in
theorem dec_walk (a0 a1 a2 : Option Addr) (n0 c0 n1 c1 n2 c2 : Nat) (steps ix : Int) (zs : List Int) (R : List (Int × Int × Int)) (zb : List Int) (w : World)
    (h0 : Sees w (.slice a0 n0 c0) n0 (zs.map (Value.int .i64))) (hl0 : zs.length = n0) (h1 : Sees w (.slice a1 n1 c1) n1 (rcells R)) (hl1 : R.length = n1)
    (h2 : Sees w (.slice a2 n2 c2) n2 (zb.map (Value.int .u8))) (hl2 : zb.length = n2) :
    Calls Try.prog 7 #[.slice a0 n0 c0, .slice a1 n1 c1, .slice a2 n2 c2, .int .i64 steps, .int .i64 ix] w (Fine w) := by
  have L0 : Hid (zs.length = n0) := hl0
  have L1 : Hid (R.length = n1) := hl1
  have L2 : Hid (zb.length = n2) := hl2
  clear hl0 hl1 hl2
  go_enter Try.func7, Try.ntmps7
  go_wp2_with fail
  refine (bytes23_any _ _ _ _ _ _ _ _ _ _ _ _).mono ?_
  rintro e w' ⟨r, rfl, rfl, hr⟩
  cases r with
  | false =>
    go_wp2
    go_ret
    exact ⟨rfl, Below.refl _ _⟩
  | true =>
    have hsum := hr rfl
    clear hr
    go_wp2_with fail
    refine (tooBig_any _ _ _ _ _ _ _ _ _ _ hsum).mono ?_
    rintro e w' ⟨r, rfl, rfl, hr⟩
    cases r with
    | true =>
      go_wp2
      go_ret
      exact ⟨rfl, Below.refl _ _⟩
    | false =>
      obtain ⟨b0, b1, b2⟩ := hr rfl
      clear hr hsum
      go_wp2_with fail
      refine (premise_any _ _ _ _ _).mono ?_
      rintro e w' ⟨r, rfl, rfl, hr⟩
      cases r with
      | false =>
        go_wp2
        go_ret
        exact ⟨rfl, Below.refl _ _⟩
      | true =>
        obtain ⟨p0, p1⟩ := hr rfl
        clear hr
        obtain ⟨i, rfl⟩ := Int.eq_ofNat_of_zero_le p0
        have hin : i < n0 := by omega
        clear p0 p1
        go_wp2_with fail
        refine (cloneInts_any _ n0 _ w h0 (by rw [List.length_map, L0.out]; omega) (ints_oneCell _ _) (by omega)).mono ?_
        rintro e w1 ⟨v0, rfl, o0, B1⟩
        clear h0
        go_wp2_with fail
        refine (cloneRaises_any _ n1 _ w1 (h1.below B1) (by rw [rcells_length, L1.out]) (rcells_oneCell _) (by omega)).mono ?_
        rintro e w2 ⟨v1, rfl, o1, B2⟩
        clear h1
        have o0 := ownsRow_below o0 B2 (Nat.le_refl _)
        have B2 := B1.trans (B2.mono B1.size)
        clear B1
        go_wp2_with fail
        refine (cloneBytes_any _ n2 _ w2 (h2.below B2) (by rw [List.length_map, L2.out]; omega) (ints_oneCell _ _) (by omega)).mono ?_
        rintro e w3 ⟨v2, rfl, o2, B3⟩
        clear h2
        have o0 := ownsRow_below o0 B3 (Nat.le_refl _)
        have o1 := ownsRow_below o1 B3 (Nat.le_refl _)
        have B3 := B2.trans (B3.mono B2.size)
        clear B2
        go_wp2_with fail
        refine (cloneInts_any _ n0 _ w3 (Sees.of_owns o0) (by rw [List.length_map, L0.out]; omega) (ints_oneCell _ _) (by omega)).mono ?_
        rintro e w4 ⟨u0, rfl, q0, B4⟩
        have o0 := ownsRow_below o0 B4 (Nat.le_refl _)
        have o1 := ownsRow_below o1 B4 (Nat.le_refl _)
        have o2 := ownsRow_below o2 B4 (Nat.le_refl _)
        have B4 := B3.trans (B4.mono B3.size)
        clear B3
        go_wp2_with fail
        refine (toRaises_any _ _ n1 _ w4 o1 (by rw [← L1.out]; exact rcells_triples R) (by omega)).mono ?_
        rintro e w5 ⟨u1, rfl, q1, B5⟩
        have o0 := ownsRow_below o0 B5 (Nat.le_refl _)
        have o1 := ownsRow_below o1 B5 (Nat.le_refl _)
        have o2 := ownsRow_below o2 B5 (Nat.le_refl _)
        have q0 := ownsRow_below q0 B5 (Nat.le_refl _)
        have B5 := B4.trans (B5.mono B4.size)
        clear B4
        obtain ⟨ao0, co0, hv0, -, -⟩ := owns_form q0
        obtain ⟨ao1, co1, hv1, -, -⟩ := owns_form q1
        rw [hv0] at q0
        rw [hv1] at q1
        rw [hv0, hv1]
        clear hv0 hv1
        go_wp2_with fail
        refine (newOracle_any _ _ _ _ _ _ w5).mono ?_
        rintro e w6 ⟨rfl, c6, c11, B6, hs6⟩
        have o0 := ownsRow_below o0 B6 (Nat.le_refl _)
        have o1 := ownsRow_below o1 B6 (Nat.le_refl _)
        have o2 := ownsRow_below o2 B6 (Nat.le_refl _)
        have q0 := ownsRow_below q0 B6 (Nat.le_refl _)
        have q1 := ownsRow_below q1 B6 (Nat.le_refl _)
        have B6 := B5.trans (B6.mono B5.size)
        clear B5
        have hs6' : w5.heap.size < w6.heap.size := by omega
        clear hs6
        go_wp2_with fail
        refine (cloneBytes_any _ n2 _ w6 (Sees.of_owns o2) (by rw [List.length_map, L2.out]; omega) (ints_oneCell _ _) (by omega)).mono ?_
        rintro e w7 ⟨u2, rfl, q2, B7⟩
        have c6 := (B7.cell (p := ⟨w5.heap.size, 6, none⟩) hs6').trans c6
        have c11 := (B7.cell (p := ⟨w5.heap.size, 11, none⟩) hs6').trans c11
        have hc := code31 w6.heap.size w5.heap.size _ _ (.slice ao0 n0 co0) (.slice ao1 n1 co1) u2 n0 n1 n2 i i steps zs R _ w7 rfl hs6' B7.size (ownsRow_below q0 B7 (Nat.le_refl _)) (ownsRow_below q1 B7 (Nat.le_refl _)) (fun k hk => (q0.lt k hk).2) (fun k hk => (q1.lt k hk).2) c6 c11 hin (by omega) (by omega) q2
        clear c6 c11 q2 q0 q1
        obtain ⟨C, hC⟩ : ∃ C, C = code (zs.getD i 0) steps i R := ⟨_, rfl⟩
        rw [← hC] at hc
        have HC : Hid (C = code (zs.getD i 0) steps i R) := hC
        clear hC
        go_wp2_with fail
        refine hc.mono ?_
        rintro e w8 ⟨vg, rfl, og, B8⟩
        have B8' := B7.trans B8
        have o0 := ownsRow_below o0 B8' (Nat.le_refl _)
        have o1 := ownsRow_below o1 B8' (Nat.le_refl _)
        have o2 := ownsRow_below o2 B8' (Nat.le_refl _)
        have BB := B6.trans (B8'.mono B6.size)
        have hcl := code_length (zs.getD i 0) steps i R
        rw [← HC.out, L1.out] at hcl
        clear hc B7 B8 B8' B6 hs6'
        obtain ⟨z, hz⟩ : ∃ z, z = zs.getD i 0 := ⟨_, rfl⟩
        obtain ⟨g0, d0, hv0, _, l0, k0⟩ := owns_at o0 (by omega)
        have kz : w8.cell? ⟨g0, i, none⟩ = some (.int .i64 z) := by
          rw [k0 i (by omega), hz]
          simp [List.getD, show i < zs.length by rw [L0.out]; exact hin]
        have HZ : Hid (z = zs.getD i 0) := hz
        clear hz k0 o0
        obtain ⟨b1, d1, hv1, -, -⟩ := owns_form o1
        obtain ⟨b2, d2, hv2, -, -⟩ := owns_form o2
        obtain ⟨gg, dg, hvg, _, lg, _⟩ := owns_at og (by omega)
        rw [hv1] at o1
        rw [hv2] at o2
        rw [hvg] at og
        rw [hv0, hv1, hv2, hvg]
        clear hv0 hv1 hv2 hvg
        have hr1 : ∀ k r, R[k]? = some r → ∃ g1, b1 = some ⟨g1, 0, none⟩ ∧ g1 < w8.heap.size ∧ w8.cell? ⟨g1, k * 3, none⟩ = some (.int .i64 r.1) ∧ w8.cell? ⟨g1, k * 3 + 1, none⟩ = some (.int .i64 r.2.1) ∧ w8.cell? ⟨g1, k * 3 + 2, none⟩ = some (.int .i64 r.2.2) := by
          intro k r hk
          have hkl : k < R.length := (List.getElem?_eq_some_iff.1 hk).1
          rw [L1.out] at hkl
          obtain ⟨g1, e1, hb, _, lg1, hcc⟩ := owns_at o1 (by omega)
          simp only [Value.slice.injEq, true_and] at hb
          obtain ⟨h0, h1, h2⟩ := rcells_get R k r hk
          exact ⟨g1, hb.1, lg1, (hcc _ (by omega)).trans h0, (hcc _ (by omega)).trans h1, (hcc _ (by omega)).trans h2⟩
        have hpre := hasPrefix_any _ _ _ _ (n2 + C.length) n2 _ _ w8 og o2 (by omega) (by omega) (fun j hj => by
          have hjl : j < zb.length := by rw [L2.out]; exact hj
          refine ⟨zb[j], ?_, ?_⟩
          · rw [List.getElem?_append_left (by simpa using hjl)]; simp [hjl]
          · simp [hjl])
        have hBC : Bytes w8 gg n2 C := by
          intro j b hj
          have hjl := (List.getElem?_eq_some_iff.1 hj).1
          rw [og.cellAt _ (by omega), List.getElem?_append_right (by rw [List.length_map, L2.out]; omega), List.length_map, L2.out, Nat.add_sub_cancel_left, bytes_at C j hjl]
          rw [(List.getElem?_eq_some_iff.1 hj).2]
        have HBC : Hid (Bytes w8 gg n2 C) := hBC
        clear hBC og o2 o1
        go_wp2_with (go_at_call 32; refine hpre.mono ?_; rintro e w' ⟨m, rfl, rfl⟩)
        clear hpre
        have HCz : Hid (C = Lib.uvarint (u64 z) ++ tailOf z steps i R 0) := by
          show C = _
          rw [HC.out, HZ.out]
          simp [code, tailOf]
        have HB1 : Hid (Bytes w8 gg n2 (Lib.uvarint (u64 z))) := by
          have h := HBC.out
          rw [HCz.out] at h
          exact h.take
        obtain ⟨P1, hP1⟩ : ∃ P1, n2 + (Lib.uvarint (u64 z)).length = P1 := ⟨_, rfl⟩
        have HB2 : Hid (Bytes w8 gg P1 (tailOf z steps i R 0)) := by
          have h := HBC.out
          rw [HCz.out] at h
          rw [← hP1]
          exact h.drop
        have HL : Hid (P1 + (tailOf z steps i R 0).length = n2 + C.length) := by
          show P1 + _ = n2 + C.length
          rw [HCz.out, List.length_append]
          omega
        have hP1n : P1 ≤ n2 + C.length := by have h := HL.out; omega
        have HP1 : Hid (n2 + (Lib.uvarint (u64 z)).length = P1) := hP1
        have hwz := wrap_u64_nat z
        have hi0 : (0 : Int) ≤ (i : Int) := Int.natCast_nonneg _
        have hi1 : (i : Int) < (n0 : Int) := by omega
        clear hP1 HBC HCz
        refine (uvarint_at gg (n2 + C.length) dg n2 (u64 z) P1 _ (w8.drewN m) rfl (u64_lt z) HP1.out hP1n (by omega) HB1.out).mono ?_
        rintro e w' ⟨rfl, rfl⟩
        go_wp2
        go_loopw [14, 16] (fun vp vj wr => ∃ k P : Nat, vp = .int .i64 P ∧ vj = .int .i64 k ∧ k ≤ n1 ∧ P + (tailOf z steps i R k).length = n2 + C.length ∧ Bytes w8 gg P (tailOf z steps i R k) ∧ Below w8.heap.size w8 wr) (fun _ vj _ => n1 - (intOf vj).toNat)
        case atStart => exact ⟨0, P1, rfl, rfl, Nat.zero_le _, HL.out, HB2.out, below_drewN (Below.refl _ _) _⟩
        case round =>
          clear HL HB2 HB1 HP1 hP1n
          obtain ⟨k, P, rfl, rfl, hk, hPl, hPB, hbr⟩ := hrel
          have hszr := hbr.size
          have HPL : Hid (P + (tailOf z steps i R k).length = n2 + C.length) := hPl
          have HPB : Hid (Bytes w8 gg P (tailOf z steps i R k)) := hPB
          have hPn : P < n2 + C.length := by have h := tail_pos z steps i R k; omega
          have hPn' : (P : Int) < ((n2 + C.length : Nat) : Int) := by omega
          clear hPl hPB
          have lgr : gg < wr.heap.size := by omega
          have l0r : g0 < wr.heap.size := by omega
          have kzr := (hbr.cell (p := ⟨g0, i, none⟩) l0).trans kz
          by_cases hlt : k < n1
          · obtain ⟨⟨s, p, t⟩, hrk⟩ : ∃ r, R[k]? = some r := ⟨_, List.getElem?_eq_getElem (by rw [L1.out]; exact hlt)⟩
            obtain ⟨g1, rfl, lg1, e0, e1, e2⟩ := hr1 k _ hrk
            rw [← hbr.cell (p := ⟨g1, k * 3, none⟩) lg1] at e0
            rw [← hbr.cell (p := ⟨g1, k * 3 + 1, none⟩) lg1] at e1
            rw [← hbr.cell (p := ⟨g1, k * 3 + 2, none⟩) lg1] at e2
            have HS : Hid (tailOf z steps i R k = one z steps i (s, p, t) ++ tailOf z steps i R (k + 1)) := tail_succ z steps i R k _ hrk
            clear hrk hr1
            have hk0 : (0 : Int) ≤ (k : Int) := Int.natCast_nonneg _
            have hk1 : (k : Int) < (n1 : Int) := by omega
            by_cases hp : p = (i : Int)
            · subst hp
              by_cases hts : z < t
              · have H1 : Hid (one z steps i (s, (i : Int), t) = 1 :: (Lib.uvarint (Lib.zigzag (wrap64 (s - steps))) ++ Lib.uvarint (u64 t))) := by
                  show _ = _
                  unfold one; rw [if_pos ⟨rfl, hts⟩]
                have hD0 : -9223372036854775808 ≤ wrap64 (s - steps) := by unfold wrap64; omega
                have hD1 : wrap64 (s - steps) ≤ 9223372036854775807 := by unfold wrap64; omega
                have hzl := Lib.zigzag_lt hD0 hD1
                obtain ⟨P2, hP2⟩ : ∃ P2, P + 1 + (Lib.uvarint (Lib.zigzag (wrap64 (s - steps)))).length = P2 := ⟨_, rfl⟩
                obtain ⟨P3, hP3⟩ : ∃ P3, P2 + (Lib.uvarint (u64 t)).length = P3 := ⟨_, rfl⟩
                have HB0 : Hid (Bytes w8 gg P (1 :: (Lib.uvarint (Lib.zigzag (wrap64 (s - steps))) ++ (Lib.uvarint (u64 t) ++ tailOf z steps i R (k + 1))))) := by
                  have h := HPB.out
                  rw [HS.out, H1.out] at h
                  simp only [List.cons_append, List.append_assoc] at h
                  exact h
                have HBa : Hid (Bytes w8 gg (P + 1) (Lib.uvarint (Lib.zigzag (wrap64 (s - steps))))) := HB0.out.tail.take
                have HBb : Hid (Bytes w8 gg P2 (Lib.uvarint (u64 t))) := by
                  have h := HB0.out.tail.drop.take
                  rwa [hP2] at h
                have HBc : Hid (Bytes w8 gg P3 (tailOf z steps i R (k + 1))) := by
                  have h := HB0.out.tail.drop.drop
                  rwa [hP2, hP3] at h
                have HLc : Hid (P3 + (tailOf z steps i R (k + 1)).length = n2 + C.length) := by
                  have h := HPL.out
                  rw [HS.out, H1.out] at h
                  simp only [List.cons_append, List.length_cons, List.length_append] at h
                  show P3 + _ = _
                  omega
                have hP3n : P3 ≤ n2 + C.length := by have h := HLc.out; omega
                have hP23 : P2 ≤ P3 := by omega
                have kP : wr.cell? ⟨gg, P, none⟩ = some (.int .u8 1) := (hbr.cell (p := ⟨gg, P, none⟩) lg).trans HB0.out.head
                have HP2 : Hid (P + 1 + (Lib.uvarint (Lib.zigzag (wrap64 (s - steps)))).length = P2) := hP2
                have HP3 : Hid (P2 + (Lib.uvarint (u64 t)).length = P3) := hP3
                have hwt := wrap_u64_nat t
                clear hP2 hP3 HB0 H1 HS HPL HPB
                go_wp2_with fail
                go_quiet (fail)
                have hbq : Below w8.heap.size w8 ((wr.alloc (.cells #[.int .i64 s, .int .i64 (i : Int), .int .i64 t] 70)).drewN nq) := below_drewN (hbr.alloc hszr _) _
                have kq0 : ((wr.alloc (.cells #[.int .i64 s, .int .i64 (i : Int), .int .i64 t] 70)).drewN nq).cell? ⟨wr.heap.size, 0, none⟩ = some (.int .i64 s) := (World.cell?_alloc_new wr _ _ _).trans rfl
                have kq2 : ((wr.alloc (.cells #[.int .i64 s, .int .i64 (i : Int), .int .i64 t] 70)).drewN nq).cell? ⟨wr.heap.size, 2, none⟩ = some (.int .i64 t) := (World.cell?_alloc_new wr _ _ _).trans rfl
                have kqP : ((wr.alloc (.cells #[.int .i64 s, .int .i64 (i : Int), .int .i64 t] 70)).drewN nq).cell? ⟨gg, P, none⟩ = some (.int .u8 1) := (World.cell?_alloc_past _ _ _ lgr).trans kP
                generalize ((wr.alloc (.cells #[.int .i64 s, .int .i64 (i : Int), .int .i64 t] 70)).drewN nq) = wq at hbq kq0 kq2 kqP ⊢
                generalize wr.heap.size = gr at kq0 kq2 lgr l0r hszr ⊢
                clear kP e0 e1 e2 kzr hbr
                go_wp2_with fail
                refine (uvarint_at gg (n2 + C.length) dg (P + 1) (Lib.zigzag (wrap64 (s - steps))) P2 _ wq (by omega) hzl HP2.out (by omega) (by omega) (HBa.out.below hbq lg)).mono ?_
                rintro e w' ⟨rfl, rfl⟩
                go_wp2_with fail
                have hwe : IntKind.i64.wrap (s - steps) = wrap64 (s - steps) := wrapEq _
                go_quiet ((go_at_call 34; exact Calls.quiet_of_same (unzig_any _ hD0 hD1 _)))
                clear hwe
                go_wp2_with fail
                refine (uvarint_at gg (n2 + C.length) dg P2 (u64 t) P3 _ _ rfl (u64_lt t) HP3.out hP3n (by omega) (HBb.out.below (below_drewN hbq _) lg)).mono ?_
                rintro e w' ⟨rfl, rfl⟩
                go_wp2
                go_roundw
                case rel => exact ⟨k + 1, P3, rfl, by go_num, by omega, HLc.out, HBc.out, below_drewN hbq _⟩
                case measure => simp [intOf]; omega
              · have HS1 : Hid (tailOf z steps i R k = tailOf z steps i R (k + 1)) := by
                  show _ = _
                  rw [HS.out, one, if_neg (by simp; omega), List.nil_append]
                clear HS
                go_wp2_with fail
                go_quiet (fail)
                go_wp2
                go_roundw
                case rel => exact ⟨k + 1, P, rfl, by go_num, by omega, by rw [← HS1.out]; exact HPL.out, by rw [← HS1.out]; exact HPB.out, below_drewN (hbr.alloc hszr _) _⟩
                case measure => simp [intOf]; omega
            · have hd : (p != (i : Int)) = true := by simpa using hp
              have HS1 : Hid (tailOf z steps i R k = tailOf z steps i R (k + 1)) := by
                show _ = _
                rw [HS.out, one, if_neg (by simp [hp]), List.nil_append]
              clear HS
              go_wp2_with fail
              go_quiet (fail)
              go_wp2
              go_roundw
              case rel => exact ⟨k + 1, P, rfl, by go_num, by omega, by rw [← HS1.out]; exact HPL.out, by rw [← HS1.out]; exact HPB.out, below_drewN (hbr.alloc hszr _) _⟩
              case measure => simp [intOf]; omega
          · obtain rfl : k = n1 := by omega
            have ht : tailOf z steps i R k = [0] := by unfold tailOf; rw [List.drop_eq_nil_of_le (by rw [L1.out]; exact Nat.le_refl _)]; rfl
            have hPa : P + 1 ≤ n2 + C.length := by omega
            have hPb : n2 + C.length ≤ P + 1 := by have h := HPL.out; rw [ht] at h; simp only [List.length_cons, List.length_nil] at h; omega
            have kP : wr.cell? ⟨gg, P, none⟩ = some (.int .u8 0) := by
              have h := HPB.out
              rw [ht] at h
              exact (hbr.cell (p := ⟨gg, P, none⟩) lg).trans h.head
            have hBT : Below w.heap.size w wr := BB.trans (hbr.mono BB.size)
            have kP2 : wr.cell? ⟨gg, n2 + C.length - 1, none⟩ = some (.int .u8 0) := by rw [show n2 + C.length - 1 = P by omega]; exact kP
            clear ht hr1 HPL HPB
            go_wp2
            go_ret
            exact ⟨rfl, hBT⟩

end Go.Proofs.Qxb6605804a
