import Derived.Test.Qxb6605814aScan
namespace Go.Proofs.Qxb6605814a
open Go.RowKit

theorem memB_above {zs : List Int} {h : Int} (ha : ∀ z ∈ zs, z ≤ h) : memB zs (h + 1) = false := decide_eq_false fun hm => by have := ha _ hm; omega
theorem memB_under {zs : List Int} {h : Int} (ha : ∀ z ∈ zs, h ≤ z) : memB zs (h - 1) = false := decide_eq_false fun hm => by have := ha _ hm; omega

theorem le_last {zs : List Int} {k : Nat} {h : Int} (ha : Asc zs) (hl : zs.length = k) (hh : zs[k - 1]? = some h) : ∀ z ∈ zs, z ≤ h := by
  intro z hz
  obtain ⟨j, hj, he⟩ := List.mem_iff_getElem.1 hz
  exact asc_of ha (show j ≤ k - 1 by omega) (by rw [List.getElem?_eq_getElem hj, he]) hh

theorem first_le {zs : List Int} {h : Int} (ha : Asc zs) (hh : zs[0]? = some h) : ∀ z ∈ zs, h ≤ z := by
  intro z hz
  obtain ⟨j, hj, he⟩ := List.mem_iff_getElem.1 hz
  exact asc_of ha (Nat.zero_le j) hh (by rw [List.getElem?_eq_getElem hj, he])

set_option maxHeartbeats 3200000 in
set_option maxRecDepth 100000 in
theorem every_walk (s : Int) (av al : Option Addr) (nv cv nl cl : Nat) (zv zl : List Int) (w : World) (hv : Nums w av nv zv) (hl : Nums w al nl zl) (hnv : av = none → cv = 0) (hnl : al = none → cl = 0) (bv : ∀ z ∈ zv, 0 ≤ z ∧ z ≤ 18446744073709551615) (bl : ∀ z ∈ zl, 0 ≤ z ∧ z ≤ 18446744073709551615) :
    Calls Try.prog 8 #[.int .u64 s, .slice av nv cv, .slice al nl cl] w (Good w) := by
  have HV : Hid (Nums w av nv zv) := hv
  have HL : Hid (Nums w al nl zl) := hl
  have HNV : Hid (av = none → cv = 0) := hnv
  have HNL : Hid (al = none → cl = 0) := hnl
  have HBV : Hid (∀ z ∈ zv, 0 ≤ z ∧ z ≤ 18446744073709551615) := bv
  have HBL : Hid (∀ z ∈ zl, 0 ≤ z ∧ z ≤ 18446744073709551615) := bl
  clear hv hl hnv hnl bv bl
  by_cases h1 : nv ≤ 65536
  · by_cases h2 : nl ≤ 65536
    · go_enter Try.func8, Try.ntmps8
      go_wp2_with fail
      refine (bytes26_any _ _ _ _ _ _ _ _).mono ?_
      rintro e w' ⟨r, rfl, rfl, -⟩
      cases r with
      | false =>
        go_wp2
        go_ret
        exact ⟨rfl, Below.refl _ _⟩
      | true =>
        go_wp2_with fail
        refine (ascending_any av nv cv zv _ HV.out h1).mono ?_
        rintro e w1 ⟨r, m, rfl, hw, hr⟩
        have B1 : Below w.heap.size w w1 := hw ▸ below_drewN (Below.refl _ _) m
        clear hw
        cases r with
        | false =>
          clear hr
          go_wp2
          go_ret
          exact ⟨rfl, B1⟩
        | true =>
          have HA : Hid (Asc zv) := hr rfl
          clear hr
          go_wp2_with fail
          refine (ascending_any al nl cl zl w1 (HL.out.below B1) h2).mono ?_
          rintro e w2 ⟨r, m, rfl, hw, hr⟩
          have B2 : Below w.heap.size w w2 := hw ▸ below_drewN B1 m
          clear hw B1
          cases r with
          | false =>
            clear hr
            go_wp2
            go_ret
            exact ⟨rfl, B2⟩
          | true =>
            have HB : Hid (Asc zl) := hr rfl
            clear hr
            go_wp2_with fail
            refine (toIDs_any av nv cv zv w2 (HV.out.below B2) HNV.out h1).mono ?_
            rintro e w3 ⟨v3, rfl, O3, G3⟩
            obtain ⟨a3, c3, rfl, N3⟩ := Nums.of_owns O3
            have HN3 : Hid (Nums w3 a3 nv zv) := N3
            have B3 := B2.trans (G3.mono B2.size)
            clear O3 G3 N3 B2
            go_wp2_with fail
            refine (toIDs_any al nl cl zl w3 (HL.out.below B3) HNL.out h2).mono ?_
            rintro e w4 ⟨v4, rfl, O4, G4⟩
            obtain ⟨a4, c4, rfl, N4⟩ := Nums.of_owns O4
            have HN4 : Hid (Nums w4 a4 nl zl) := N4
            have HN3' : Hid (Nums w4 a3 nv zv) := HN3.out.below G4
            have B4 := B3.trans (G4.mono B3.size)
            clear O4 G4 N4 B3 HN3 HNV HNL
            go_wp2_with fail
            go_loopw [10] (fun vi wr => ∃ k : Nat, vi = .int .i64 k ∧ k ≤ nv ∧ Below w4.heap.size w4 wr) (fun vi _ => nv - (intOf vi).toNat)
            case atStart => exact ⟨0, rfl, Nat.zero_le _, Below.refl _ _⟩
            case round =>
              obtain ⟨k, rfl, hk, hb⟩ := hrel
              have hw := B4.trans (hb.mono B4.size)
              by_cases hlt : k < nv
              · have hlt' : (k : Int) < (nv : Int) := by omega
                obtain ⟨z, hz⟩ : ∃ z, zv[k]? = some z := ⟨_, List.getElem?_eq_getElem (by rw [HV.out.1]; exact hlt)⟩
                obtain ⟨b, off, rfl, hc⟩ := (HV.out.below hw).2.2 k z hz
                have hm := mem_yes hz
                clear hz
                go_wp2_with fail
                have hh := zhas_any s a3 a4 nv c3 nl c4 zv zl z wr (HN3'.out.below hb) (HN4.out.below hb) HA.out HB.out h1 h2
                unfold Has at hh
                rw [hm, Bool.true_or] at hh
                refine hh.mono ?_
                rintro e w5 ⟨rfl, G5⟩
                have hb5 := hb.trans (G5.mono hb.size)
                clear G5 hb hw hh hm hc
                go_wp2
                go_roundw
                case rel => exact ⟨k + 1, by go_num, by omega, hb5⟩
                case measure => simp [intOf]; omega
              · obtain rfl : k = nv := by omega
                clear hlt hw
                go_wp2_with fail
                obtain ⟨wo, rfl⟩ : ∃ wo, wo = wr := ⟨_, rfl⟩
                go_loopw [11] (fun vi wr => ∃ j : Nat, vi = .int .i64 j ∧ j ≤ nl ∧ Below w4.heap.size w4 wr) (fun vi _ => nl - (intOf vi).toNat)
                case atStart => exact ⟨0, rfl, Nat.zero_le _, hb⟩
                case round =>
                  clear hb
                  obtain ⟨j, rfl, hj, hb⟩ := hrel
                  have hw := B4.trans (hb.mono B4.size)
                  by_cases hlt : j < nl
                  · have hlt' : (j : Int) < (nl : Int) := by omega
                    obtain ⟨z, hz⟩ : ∃ z, zl[j]? = some z := ⟨_, List.getElem?_eq_getElem (by rw [HL.out.1]; exact hlt)⟩
                    obtain ⟨b, off, rfl, hc⟩ := (HL.out.below hw).2.2 j z hz
                    have hm := mem_yes hz
                    clear hz
                    go_wp2_with fail
                    have hh := zhas_any s a3 a4 k c3 nl c4 zv zl z wr (HN3'.out.below hb) (HN4.out.below hb) HA.out HB.out h1 h2
                    unfold Has at hh
                    rw [hm, Bool.or_true] at hh
                    refine hh.mono ?_
                    rintro e w5 ⟨rfl, G5⟩
                    have hb5 := hb.trans (G5.mono hb.size)
                    clear G5 hb hw hh hm hc
                    go_wp2
                    go_roundw
                    case rel => exact ⟨j + 1, by go_num, by omega, hb5⟩
                    case measure => simp [intOf]; omega
                  · obtain rfl : j = nl := by omega
                    clear hlt
                    by_cases z1 : k = 0
                    · by_cases z2 : j = 0
                      · subst z1
                        subst z2
                        obtain rfl : zv = [] := List.eq_nil_of_length_eq_zero HV.out.1
                        obtain rfl : zl = [] := List.eq_nil_of_length_eq_zero HL.out.1
                        go_wp2_with fail
                        refine (zhas_any s a3 a4 0 c3 0 c4 [] [] s wr (HN3'.out.below hb) (HN4.out.below hb) HA.out HB.out h1 h2).mono ?_
                        rintro e w5 ⟨rfl, G5⟩
                        have hb5 := hw.trans (G5.mono hw.size)
                        have hm : memB [] s = false := decide_eq_false (by simp)
                        rw [hm]
                        go_wp2
                        go_ret
                        exact ⟨by simp, hb5⟩
                      · subst z1
                        have p2 : (0 : Int) < (j : Int) := by omega
                        have pn2 : ((j : Int) == 0) = false := by simpa using z2
                        have pw2 : IntKind.i64.wrap ((j : Int) - 1) = ((j - 1 : Nat) : Int) := by rw [IntKind.wrap_i64]; omega
                        have pi2 : ((j - 1 : Nat) : Int) < (j : Int) := by omega
                        obtain rfl : zv = [] := List.eq_nil_of_length_eq_zero HV.out.1
                        obtain ⟨hi, hhi⟩ : ∃ z, zl[j - 1]? = some z := ⟨_, List.getElem?_eq_getElem (by rw [HL.out.1]; omega)⟩
                        obtain ⟨lo, hlo⟩ : ∃ z, zl[0]? = some z := ⟨_, List.getElem?_eq_getElem (by rw [HL.out.1]; omega)⟩
                        obtain ⟨b, off, rfl, ch⟩ := (HL.out.below hw).2.2 (j - 1) hi hhi
                        obtain ⟨b', off', he, co⟩ := (HL.out.below hw).2.2 0 lo hlo
                        simp only [Option.some.injEq, Addr.mk.injEq, and_true] at he
                        obtain ⟨rfl, rfl⟩ := he
                        have U1 : Hid (∀ z ∈ ([] : List Int), z ≤ hi) := fun z hz => absurd hz (by simp)
                        have U2 : Hid (∀ z ∈ zl, z ≤ hi) := le_last HB.out HL.out.1 hhi
                        have D1 : Hid (∀ z ∈ ([] : List Int), lo ≤ z) := fun z hz => absurd hz (by simp)
                        have D2 : Hid (∀ z ∈ zl, lo ≤ z) := first_le HB.out hlo
                        have bh := HBL.out hi (List.mem_of_getElem? hhi)
                        have bo := HBL.out lo (List.mem_of_getElem? hlo)
                        rw [Nat.add_zero] at co
                        clear hhi hlo hw hk hj
                        have m2 : lo - 1 ≤ 18446744073709551615 := by omega
                        by_cases q1 : hi < 18446744073709551615
                        · go_wp2_with fail
                          have hh := zhas_any s a3 a4 (0) c3 (j) c4 [] zl (hi + 1) wr (HN3'.out.below hb) (HN4.out.below hb) HA.out HB.out h1 h2
                          unfold Has at hh
                          rw [memB_above U1.out, memB_above U2.out, Bool.or_false] at hh
                          refine hh.mono ?_
                          rintro e w7 ⟨rfl, G5⟩
                          have hb' := hb.trans (G5.mono hb.size)
                          clear G5 hh
                          by_cases q2 : 0 < lo
                          · go_wp2_with fail
                            have hh := zhas_any s a3 a4 (0) c3 (j) c4 [] zl (lo - 1) w7 (HN3'.out.below hb') (HN4.out.below hb') HA.out HB.out h1 h2
                            unfold Has at hh
                            rw [memB_under D1.out, memB_under D2.out, Bool.or_false] at hh
                            refine hh.mono ?_
                            rintro e w8 ⟨rfl, G5⟩
                            have hb'' := hb'.trans (G5.mono hb'.size)
                            clear G5 hh
                            go_wp2
                            go_ret
                            exact ⟨by simp, B4.trans (hb''.mono B4.size)⟩
                          · go_wp2
                            go_ret
                            exact ⟨by simp, B4.trans (hb'.mono B4.size)⟩
                        · by_cases q2 : 0 < lo
                          · go_wp2_with fail
                            have hh := zhas_any s a3 a4 (0) c3 (j) c4 [] zl (lo - 1) wr (HN3'.out.below hb) (HN4.out.below hb) HA.out HB.out h1 h2
                            unfold Has at hh
                            rw [memB_under D1.out, memB_under D2.out, Bool.or_false] at hh
                            refine hh.mono ?_
                            rintro e w8 ⟨rfl, G5⟩
                            have hb' := hb.trans (G5.mono hb.size)
                            clear G5 hh
                            go_wp2
                            go_ret
                            exact ⟨by simp, B4.trans (hb'.mono B4.size)⟩
                          · go_wp2
                            go_ret
                            exact ⟨by simp, B4.trans (hb.mono B4.size)⟩
                    · by_cases z2 : j = 0
                      · subst z2
                        have p1 : (0 : Int) < (k : Int) := by omega
                        have pn1 : ((k : Int) == 0) = false := by simpa using z1
                        have pw1 : IntKind.i64.wrap ((k : Int) - 1) = ((k - 1 : Nat) : Int) := by rw [IntKind.wrap_i64]; omega
                        have pi1 : ((k - 1 : Nat) : Int) < (k : Int) := by omega
                        obtain rfl : zl = [] := List.eq_nil_of_length_eq_zero HL.out.1
                        obtain ⟨hi, hhi⟩ : ∃ z, zv[k - 1]? = some z := ⟨_, List.getElem?_eq_getElem (by rw [HV.out.1]; omega)⟩
                        obtain ⟨lo, hlo⟩ : ∃ z, zv[0]? = some z := ⟨_, List.getElem?_eq_getElem (by rw [HV.out.1]; omega)⟩
                        obtain ⟨b, off, rfl, ch⟩ := (HV.out.below hw).2.2 (k - 1) hi hhi
                        obtain ⟨b', off', he, co⟩ := (HV.out.below hw).2.2 0 lo hlo
                        simp only [Option.some.injEq, Addr.mk.injEq, and_true] at he
                        obtain ⟨rfl, rfl⟩ := he
                        have U1 : Hid (∀ z ∈ zv, z ≤ hi) := le_last HA.out HV.out.1 hhi
                        have U2 : Hid (∀ z ∈ ([] : List Int), z ≤ hi) := fun z hz => absurd hz (by simp)
                        have D1 : Hid (∀ z ∈ zv, lo ≤ z) := first_le HA.out hlo
                        have D2 : Hid (∀ z ∈ ([] : List Int), lo ≤ z) := fun z hz => absurd hz (by simp)
                        have bh := HBV.out hi (List.mem_of_getElem? hhi)
                        have bo := HBV.out lo (List.mem_of_getElem? hlo)
                        rw [Nat.add_zero] at co
                        clear hhi hlo hw hk hj
                        have m2 : lo - 1 ≤ 18446744073709551615 := by omega
                        by_cases q1 : hi < 18446744073709551615
                        · go_wp2_with fail
                          have hh := zhas_any s a3 a4 (k) c3 (0) c4 zv [] (hi + 1) wr (HN3'.out.below hb) (HN4.out.below hb) HA.out HB.out h1 h2
                          unfold Has at hh
                          rw [memB_above U1.out, memB_above U2.out, Bool.or_false] at hh
                          refine hh.mono ?_
                          rintro e w7 ⟨rfl, G5⟩
                          have hb' := hb.trans (G5.mono hb.size)
                          clear G5 hh
                          by_cases q2 : 0 < lo
                          · go_wp2_with fail
                            have hh := zhas_any s a3 a4 (k) c3 (0) c4 zv [] (lo - 1) w7 (HN3'.out.below hb') (HN4.out.below hb') HA.out HB.out h1 h2
                            unfold Has at hh
                            rw [memB_under D1.out, memB_under D2.out, Bool.or_false] at hh
                            refine hh.mono ?_
                            rintro e w8 ⟨rfl, G5⟩
                            have hb'' := hb'.trans (G5.mono hb'.size)
                            clear G5 hh
                            go_wp2
                            go_ret
                            exact ⟨by simp, B4.trans (hb''.mono B4.size)⟩
                          · go_wp2
                            go_ret
                            exact ⟨by simp, B4.trans (hb'.mono B4.size)⟩
                        · by_cases q2 : 0 < lo
                          · go_wp2_with fail
                            have hh := zhas_any s a3 a4 (k) c3 (0) c4 zv [] (lo - 1) wr (HN3'.out.below hb) (HN4.out.below hb) HA.out HB.out h1 h2
                            unfold Has at hh
                            rw [memB_under D1.out, memB_under D2.out, Bool.or_false] at hh
                            refine hh.mono ?_
                            rintro e w8 ⟨rfl, G5⟩
                            have hb' := hb.trans (G5.mono hb.size)
                            clear G5 hh
                            go_wp2
                            go_ret
                            exact ⟨by simp, B4.trans (hb'.mono B4.size)⟩
                          · go_wp2
                            go_ret
                            exact ⟨by simp, B4.trans (hb.mono B4.size)⟩
                      · have p1 : (0 : Int) < (k : Int) := by omega
                        have pn1 : ((k : Int) == 0) = false := by simpa using z1
                        have pw1 : IntKind.i64.wrap ((k : Int) - 1) = ((k - 1 : Nat) : Int) := by rw [IntKind.wrap_i64]; omega
                        have pi1 : ((k - 1 : Nat) : Int) < (k : Int) := by omega
                        have p2 : (0 : Int) < (j : Int) := by omega
                        have pn2 : ((j : Int) == 0) = false := by simpa using z2
                        have pw2 : IntKind.i64.wrap ((j : Int) - 1) = ((j - 1 : Nat) : Int) := by rw [IntKind.wrap_i64]; omega
                        have pi2 : ((j - 1 : Nat) : Int) < (j : Int) := by omega
                        obtain ⟨hi1, hhi1⟩ : ∃ z, zv[k - 1]? = some z := ⟨_, List.getElem?_eq_getElem (by rw [HV.out.1]; omega)⟩
                        obtain ⟨lo1, hlo1⟩ : ∃ z, zv[0]? = some z := ⟨_, List.getElem?_eq_getElem (by rw [HV.out.1]; omega)⟩
                        obtain ⟨b, off, rfl, ch1⟩ := (HV.out.below hw).2.2 (k - 1) hi1 hhi1
                        obtain ⟨b', off', he, co1⟩ := (HV.out.below hw).2.2 0 lo1 hlo1
                        simp only [Option.some.injEq, Addr.mk.injEq, and_true] at he
                        obtain ⟨rfl, rfl⟩ := he
                        obtain ⟨hi2, hhi2⟩ : ∃ z, zl[j - 1]? = some z := ⟨_, List.getElem?_eq_getElem (by rw [HL.out.1]; omega)⟩
                        obtain ⟨lo2, hlo2⟩ : ∃ z, zl[0]? = some z := ⟨_, List.getElem?_eq_getElem (by rw [HL.out.1]; omega)⟩
                        obtain ⟨d, offd, rfl, ch2⟩ := (HL.out.below hw).2.2 (j - 1) hi2 hhi2
                        obtain ⟨d', offd', he, co2⟩ := (HL.out.below hw).2.2 0 lo2 hlo2
                        simp only [Option.some.injEq, Addr.mk.injEq, and_true] at he
                        obtain ⟨rfl, rfl⟩ := he
                        have W1 : Hid (∀ z ∈ zv, z ≤ hi1) := le_last HA.out HV.out.1 hhi1
                        have W2 : Hid (∀ z ∈ zl, z ≤ hi2) := le_last HB.out HL.out.1 hhi2
                        have E1 : Hid (∀ z ∈ zv, lo1 ≤ z) := first_le HA.out hlo1
                        have E2 : Hid (∀ z ∈ zl, lo2 ≤ z) := first_le HB.out hlo2
                        have bh1 := HBV.out hi1 (List.mem_of_getElem? hhi1)
                        have bh2 := HBL.out hi2 (List.mem_of_getElem? hhi2)
                        have bo1 := HBV.out lo1 (List.mem_of_getElem? hlo1)
                        have bo2 := HBL.out lo2 (List.mem_of_getElem? hlo2)
                        rw [Nat.add_zero] at co1 co2
                        clear hhi1 hlo1 hhi2 hlo2 hw hk hj
                        by_cases g1 : hi1 < hi2
                        · by_cases g2 : lo2 < lo1
                          · have U1 : Hid (∀ z ∈ zv, z ≤ hi2) := fun z hz => by have := W1.out z hz; omega
                            have U2 : Hid (∀ z ∈ zl, z ≤ hi2) := fun z hz => by have := W2.out z hz; omega
                            have D1 : Hid (∀ z ∈ zv, lo2 ≤ z) := fun z hz => by have := E1.out z hz; omega
                            have D2 : Hid (∀ z ∈ zl, lo2 ≤ z) := fun z hz => by have := E2.out z hz; omega
                            have m2 : lo2 - 1 ≤ 18446744073709551615 := by omega
                            by_cases q1 : hi2 < 18446744073709551615
                            · go_wp2_with fail
                              have hh := zhas_any s a3 a4 (k) c3 (j) c4 zv zl (hi2 + 1) wr (HN3'.out.below hb) (HN4.out.below hb) HA.out HB.out h1 h2
                              unfold Has at hh
                              rw [memB_above U1.out, memB_above U2.out, Bool.or_false] at hh
                              refine hh.mono ?_
                              rintro e w7 ⟨rfl, G5⟩
                              have hb' := hb.trans (G5.mono hb.size)
                              clear G5 hh
                              by_cases q2 : 0 < lo2
                              · go_wp2_with fail
                                have hh := zhas_any s a3 a4 (k) c3 (j) c4 zv zl (lo2 - 1) w7 (HN3'.out.below hb') (HN4.out.below hb') HA.out HB.out h1 h2
                                unfold Has at hh
                                rw [memB_under D1.out, memB_under D2.out, Bool.or_false] at hh
                                refine hh.mono ?_
                                rintro e w8 ⟨rfl, G5⟩
                                have hb'' := hb'.trans (G5.mono hb'.size)
                                clear G5 hh
                                go_wp2
                                go_ret
                                exact ⟨by simp, B4.trans (hb''.mono B4.size)⟩
                              · go_wp2
                                go_ret
                                exact ⟨by simp, B4.trans (hb'.mono B4.size)⟩
                            · by_cases q2 : 0 < lo2
                              · go_wp2_with fail
                                have hh := zhas_any s a3 a4 (k) c3 (j) c4 zv zl (lo2 - 1) wr (HN3'.out.below hb) (HN4.out.below hb) HA.out HB.out h1 h2
                                unfold Has at hh
                                rw [memB_under D1.out, memB_under D2.out, Bool.or_false] at hh
                                refine hh.mono ?_
                                rintro e w8 ⟨rfl, G5⟩
                                have hb' := hb.trans (G5.mono hb.size)
                                clear G5 hh
                                go_wp2
                                go_ret
                                exact ⟨by simp, B4.trans (hb'.mono B4.size)⟩
                              · go_wp2
                                go_ret
                                exact ⟨by simp, B4.trans (hb.mono B4.size)⟩
                          · have U1 : Hid (∀ z ∈ zv, z ≤ hi2) := fun z hz => by have := W1.out z hz; omega
                            have U2 : Hid (∀ z ∈ zl, z ≤ hi2) := fun z hz => by have := W2.out z hz; omega
                            have D1 : Hid (∀ z ∈ zv, lo1 ≤ z) := fun z hz => by have := E1.out z hz; omega
                            have D2 : Hid (∀ z ∈ zl, lo1 ≤ z) := fun z hz => by have := E2.out z hz; omega
                            have m2 : lo1 - 1 ≤ 18446744073709551615 := by omega
                            by_cases q1 : hi2 < 18446744073709551615
                            · go_wp2_with fail
                              have hh := zhas_any s a3 a4 (k) c3 (j) c4 zv zl (hi2 + 1) wr (HN3'.out.below hb) (HN4.out.below hb) HA.out HB.out h1 h2
                              unfold Has at hh
                              rw [memB_above U1.out, memB_above U2.out, Bool.or_false] at hh
                              refine hh.mono ?_
                              rintro e w7 ⟨rfl, G5⟩
                              have hb' := hb.trans (G5.mono hb.size)
                              clear G5 hh
                              by_cases q2 : 0 < lo1
                              · go_wp2_with fail
                                have hh := zhas_any s a3 a4 (k) c3 (j) c4 zv zl (lo1 - 1) w7 (HN3'.out.below hb') (HN4.out.below hb') HA.out HB.out h1 h2
                                unfold Has at hh
                                rw [memB_under D1.out, memB_under D2.out, Bool.or_false] at hh
                                refine hh.mono ?_
                                rintro e w8 ⟨rfl, G5⟩
                                have hb'' := hb'.trans (G5.mono hb'.size)
                                clear G5 hh
                                go_wp2
                                go_ret
                                exact ⟨by simp, B4.trans (hb''.mono B4.size)⟩
                              · go_wp2
                                go_ret
                                exact ⟨by simp, B4.trans (hb'.mono B4.size)⟩
                            · by_cases q2 : 0 < lo1
                              · go_wp2_with fail
                                have hh := zhas_any s a3 a4 (k) c3 (j) c4 zv zl (lo1 - 1) wr (HN3'.out.below hb) (HN4.out.below hb) HA.out HB.out h1 h2
                                unfold Has at hh
                                rw [memB_under D1.out, memB_under D2.out, Bool.or_false] at hh
                                refine hh.mono ?_
                                rintro e w8 ⟨rfl, G5⟩
                                have hb' := hb.trans (G5.mono hb.size)
                                clear G5 hh
                                go_wp2
                                go_ret
                                exact ⟨by simp, B4.trans (hb'.mono B4.size)⟩
                              · go_wp2
                                go_ret
                                exact ⟨by simp, B4.trans (hb.mono B4.size)⟩
                        · by_cases g2 : lo2 < lo1
                          · have U1 : Hid (∀ z ∈ zv, z ≤ hi1) := fun z hz => by have := W1.out z hz; omega
                            have U2 : Hid (∀ z ∈ zl, z ≤ hi1) := fun z hz => by have := W2.out z hz; omega
                            have D1 : Hid (∀ z ∈ zv, lo2 ≤ z) := fun z hz => by have := E1.out z hz; omega
                            have D2 : Hid (∀ z ∈ zl, lo2 ≤ z) := fun z hz => by have := E2.out z hz; omega
                            have m2 : lo2 - 1 ≤ 18446744073709551615 := by omega
                            by_cases q1 : hi1 < 18446744073709551615
                            · go_wp2_with fail
                              have hh := zhas_any s a3 a4 (k) c3 (j) c4 zv zl (hi1 + 1) wr (HN3'.out.below hb) (HN4.out.below hb) HA.out HB.out h1 h2
                              unfold Has at hh
                              rw [memB_above U1.out, memB_above U2.out, Bool.or_false] at hh
                              refine hh.mono ?_
                              rintro e w7 ⟨rfl, G5⟩
                              have hb' := hb.trans (G5.mono hb.size)
                              clear G5 hh
                              by_cases q2 : 0 < lo2
                              · go_wp2_with fail
                                have hh := zhas_any s a3 a4 (k) c3 (j) c4 zv zl (lo2 - 1) w7 (HN3'.out.below hb') (HN4.out.below hb') HA.out HB.out h1 h2
                                unfold Has at hh
                                rw [memB_under D1.out, memB_under D2.out, Bool.or_false] at hh
                                refine hh.mono ?_
                                rintro e w8 ⟨rfl, G5⟩
                                have hb'' := hb'.trans (G5.mono hb'.size)
                                clear G5 hh
                                go_wp2
                                go_ret
                                exact ⟨by simp, B4.trans (hb''.mono B4.size)⟩
                              · go_wp2
                                go_ret
                                exact ⟨by simp, B4.trans (hb'.mono B4.size)⟩
                            · by_cases q2 : 0 < lo2
                              · go_wp2_with fail
                                have hh := zhas_any s a3 a4 (k) c3 (j) c4 zv zl (lo2 - 1) wr (HN3'.out.below hb) (HN4.out.below hb) HA.out HB.out h1 h2
                                unfold Has at hh
                                rw [memB_under D1.out, memB_under D2.out, Bool.or_false] at hh
                                refine hh.mono ?_
                                rintro e w8 ⟨rfl, G5⟩
                                have hb' := hb.trans (G5.mono hb.size)
                                clear G5 hh
                                go_wp2
                                go_ret
                                exact ⟨by simp, B4.trans (hb'.mono B4.size)⟩
                              · go_wp2
                                go_ret
                                exact ⟨by simp, B4.trans (hb.mono B4.size)⟩
                          · have U1 : Hid (∀ z ∈ zv, z ≤ hi1) := fun z hz => by have := W1.out z hz; omega
                            have U2 : Hid (∀ z ∈ zl, z ≤ hi1) := fun z hz => by have := W2.out z hz; omega
                            have D1 : Hid (∀ z ∈ zv, lo1 ≤ z) := fun z hz => by have := E1.out z hz; omega
                            have D2 : Hid (∀ z ∈ zl, lo1 ≤ z) := fun z hz => by have := E2.out z hz; omega
                            have m2 : lo1 - 1 ≤ 18446744073709551615 := by omega
                            by_cases q1 : hi1 < 18446744073709551615
                            · go_wp2_with fail
                              have hh := zhas_any s a3 a4 (k) c3 (j) c4 zv zl (hi1 + 1) wr (HN3'.out.below hb) (HN4.out.below hb) HA.out HB.out h1 h2
                              unfold Has at hh
                              rw [memB_above U1.out, memB_above U2.out, Bool.or_false] at hh
                              refine hh.mono ?_
                              rintro e w7 ⟨rfl, G5⟩
                              have hb' := hb.trans (G5.mono hb.size)
                              clear G5 hh
                              by_cases q2 : 0 < lo1
                              · go_wp2_with fail
                                have hh := zhas_any s a3 a4 (k) c3 (j) c4 zv zl (lo1 - 1) w7 (HN3'.out.below hb') (HN4.out.below hb') HA.out HB.out h1 h2
                                unfold Has at hh
                                rw [memB_under D1.out, memB_under D2.out, Bool.or_false] at hh
                                refine hh.mono ?_
                                rintro e w8 ⟨rfl, G5⟩
                                have hb'' := hb'.trans (G5.mono hb'.size)
                                clear G5 hh
                                go_wp2
                                go_ret
                                exact ⟨by simp, B4.trans (hb''.mono B4.size)⟩
                              · go_wp2
                                go_ret
                                exact ⟨by simp, B4.trans (hb'.mono B4.size)⟩
                            · by_cases q2 : 0 < lo1
                              · go_wp2_with fail
                                have hh := zhas_any s a3 a4 (k) c3 (j) c4 zv zl (lo1 - 1) wr (HN3'.out.below hb) (HN4.out.below hb) HA.out HB.out h1 h2
                                unfold Has at hh
                                rw [memB_under D1.out, memB_under D2.out, Bool.or_false] at hh
                                refine hh.mono ?_
                                rintro e w8 ⟨rfl, G5⟩
                                have hb' := hb.trans (G5.mono hb.size)
                                clear G5 hh
                                go_wp2
                                go_ret
                                exact ⟨by simp, B4.trans (hb'.mono B4.size)⟩
                              · go_wp2
                                go_ret
                                exact ⟨by simp, B4.trans (hb.mono B4.size)⟩
    · go_enter Try.func8, Try.ntmps8
      go_wp2_with fail
      refine (bytes26_any _ _ _ _ _ _ _ _).mono ?_
      rintro e w' ⟨r, rfl, rfl, -⟩
      cases r with
      | false =>
        go_wp2
        go_ret
        exact ⟨rfl, Below.refl _ _⟩
      | true =>
        go_wp2
        go_ret
        exact ⟨rfl, Below.refl _ _⟩
  · go_enter Try.func8, Try.ntmps8
    go_wp2_with fail
    refine (bytes26_any _ _ _ _ _ _ _ _).mono ?_
    rintro e w' ⟨r, rfl, rfl, -⟩
    cases r with
    | false =>
      go_wp2
      go_ret
      exact ⟨rfl, Below.refl _ _⟩
    | true =>
      go_wp2
      go_ret
      exact ⟨rfl, Below.refl _ _⟩

end Go.Proofs.Qxb6605814a
