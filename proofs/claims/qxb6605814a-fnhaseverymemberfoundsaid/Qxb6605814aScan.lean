import Derived.Test.Qxb6605814aHas
namespace Go.Proofs.Qxb6605814a
open Go.RowKit

set_option maxHeartbeats 400000 in
theorem bytes21_any (s x : Int) (av al : Option Addr) (nv cv nl cl : Nat) (w : World) :
    Calls Try.prog 21 #[.int .u64 s, .slice av nv cv, .slice al nl cl, .int .u64 x] w (Says w Triv) := by
  by_cases h1 : nv ≤ 1048576
  · by_cases h2 : nl ≤ 1048576
    · by_cases h3 : nv + nl ≤ 1048576
      · have i3 : (nv : Int) + (nl : Int) ≤ 1048576 := by omega
        go_enter Try.func21, Try.ntmps21
        go_wp2
        go_ret
        exact ⟨_, rfl, rfl, trivial⟩
      · have i3 : ¬ (nv : Int) + (nl : Int) ≤ 1048576 := by omega
        go_enter Try.func21, Try.ntmps21
        go_wp2
        go_ret
        exact ⟨_, rfl, rfl, trivial⟩
    · go_enter Try.func21, Try.ntmps21
      go_wp2
      go_ret
      exact ⟨_, rfl, rfl, trivial⟩
  · go_enter Try.func21, Try.ntmps21
    go_wp2
    go_ret
    exact ⟨_, rfl, rfl, trivial⟩

set_option maxHeartbeats 400000 in
theorem bytes26_any (s : Int) (av al : Option Addr) (nv cv nl cl : Nat) (w : World) :
    Calls Try.prog 26 #[.int .u64 s, .slice av nv cv, .slice al nl cl] w (Says w Triv) := by
  by_cases h1 : nv ≤ 1048576
  · by_cases h2 : nl ≤ 1048576
    · by_cases h3 : nv + nl ≤ 1048576
      · have i3 : (nv : Int) + (nl : Int) ≤ 1048576 := by omega
        go_enter Try.func26, Try.ntmps26
        go_wp2
        go_ret
        exact ⟨_, rfl, rfl, trivial⟩
      · have i3 : ¬ (nv : Int) + (nl : Int) ≤ 1048576 := by omega
        go_enter Try.func26, Try.ntmps26
        go_wp2
        go_ret
        exact ⟨_, rfl, rfl, trivial⟩
    · go_enter Try.func26, Try.ntmps26
      go_wp2
      go_ret
      exact ⟨_, rfl, rfl, trivial⟩
  · go_enter Try.func26, Try.ntmps26
    go_wp2
    go_ret
    exact ⟨_, rfl, rfl, trivial⟩

set_option maxHeartbeats 800000 in
set_option maxRecDepth 100000 in
theorem scan_walk (s x : Int) (av al : Option Addr) (nv cv nl cl : Nat) (zv zl : List Int) (w : World) (hv : Nums w av nv zv) (hl : Nums w al nl zl) (hnv : av = none → cv = 0) (hnl : al = none → cl = 0) :
    Calls Try.prog 7 #[.int .u64 s, .slice av nv cv, .slice al nl cl, .int .u64 x] w (Good w) := by
  have HV : Hid (Nums w av nv zv) := hv
  have HL : Hid (Nums w al nl zl) := hl
  have HNV : Hid (av = none → cv = 0) := hnv
  have HNL : Hid (al = none → cl = 0) := hnl
  clear hv hl hnv hnl
  by_cases h1 : nv ≤ 65536
  · by_cases h2 : nl ≤ 65536
    · go_enter Try.func7, Try.ntmps7
      go_wp2_with fail
      refine (bytes21_any _ _ _ _ _ _ _ _ _).mono ?_
      rintro e w' ⟨r, rfl, rfl, -⟩
      cases r with
      | false =>
        go_wp2
        go_ret
        exact ⟨rfl, Below.refl _ _⟩
      | true =>
        go_wp2_with fail
        refine (ascending_any av nv cv zv _ HV.out h1).mono ?_
        rintro e w1 ⟨r, m, rfl, hw, hr⟩
        have B1 : Below w.heap.size w w1 := hw ▸ below_drewN (Below.refl _ _) m
        clear hw
        cases r with
        | false =>
          clear hr
          go_wp2
          go_ret
          exact ⟨rfl, B1⟩
        | true =>
          have HA : Hid (Asc zv) := hr rfl
          clear hr
          go_wp2_with fail
          refine (ascending_any al nl cl zl w1 (HL.out.below B1) h2).mono ?_
          rintro e w2 ⟨r, m, rfl, hw, hr⟩
          have B2 : Below w.heap.size w w2 := hw ▸ below_drewN B1 m
          clear hw B1
          cases r with
          | false =>
            clear hr
            go_wp2
            go_ret
            exact ⟨rfl, B2⟩
          | true =>
            have HB : Hid (Asc zl) := hr rfl
            clear hr
            go_wp2_with fail
            refine (toIDs_any av nv cv zv w2 (HV.out.below B2) HNV.out h1).mono ?_
            rintro e w3 ⟨v3, rfl, O3, G3⟩
            obtain ⟨a3, c3, rfl, N3⟩ := Nums.of_owns O3
            have HN3 : Hid (Nums w3 a3 nv zv) := N3
            have B3 := B2.trans (G3.mono B2.size)
            clear O3 G3 N3 B2
            go_wp2_with fail
            refine (toIDs_any al nl cl zl w3 (HL.out.below B3) HNL.out h2).mono ?_
            rintro e w4 ⟨v4, rfl, O4, G4⟩
            obtain ⟨a4, c4, rfl, N4⟩ := Nums.of_owns O4
            have HN4 : Hid (Nums w4 a4 nl zl) := N4
            have HN3' : Hid (Nums w4 a3 nv zv) := HN3.out.below G4
            have B4 := B3.trans (G4.mono B3.size)
            clear O4 G4 N4 B3 HN3
            go_wp2_with fail
            refine (zhas_any s a3 a4 nv c3 nl c4 zv zl x w4 HN3'.out HN4.out HA.out HB.out h1 h2).mono ?_
            rintro e w5 ⟨rfl, G5⟩
            have B5 := B4.trans (G5.mono B4.size)
            clear B4 G5 HN3' HN4
            cases hmv : memB zv x with
            | true =>
              go_wp2_with fail
              refine (scan_any av nv cv zv x w5 (HV.out.below B5) h1).mono ?_
              rintro e w' ⟨rfl, rfl⟩
              rw [hmv]
              go_wp2
              go_ret
              exact ⟨by simp, B5⟩
            | false =>
              cases hml : memB zl x with
              | true =>
                go_wp2_with fail
                refine (scan_any av nv cv zv x w5 (HV.out.below B5) h1).mono ?_
                rintro e w' ⟨rfl, rfl⟩
                rw [hmv]
                go_wp2_with fail
                refine (scan_any al nl cl zl x w5 (HL.out.below B5) h2).mono ?_
                rintro e w' ⟨rfl, rfl⟩
                rw [hml]
                go_wp2
                go_ret
                exact ⟨by simp, B5⟩
              | false =>
                go_wp2_with fail
                refine (scan_any av nv cv zv x w5 (HV.out.below B5) h1).mono ?_
                rintro e w' ⟨rfl, rfl⟩
                rw [hmv]
                go_wp2_with fail
                refine (scan_any al nl cl zl x w5 (HL.out.below B5) h2).mono ?_
                rintro e w' ⟨rfl, rfl⟩
                rw [hml]
                go_wp2
                go_ret
                exact ⟨by simp, B5⟩
    · go_enter Try.func7, Try.ntmps7
      go_wp2_with fail
      refine (bytes21_any _ _ _ _ _ _ _ _ _).mono ?_
      rintro e w' ⟨r, rfl, rfl, -⟩
      cases r with
      | false =>
        go_wp2
        go_ret
        exact ⟨rfl, Below.refl _ _⟩
      | true =>
        go_wp2
        go_ret
        exact ⟨rfl, Below.refl _ _⟩
  · go_enter Try.func7, Try.ntmps7
    go_wp2_with fail
    refine (bytes21_any _ _ _ _ _ _ _ _ _).mono ?_
    rintro e w' ⟨r, rfl, rfl, -⟩
    cases r with
    | false =>
      go_wp2
      go_ret
      exact ⟨rfl, Below.refl _ _⟩
    | true =>
      go_wp2
      go_ret
      exact ⟨rfl, Below.refl _ _⟩

end Go.Proofs.Qxb6605814a
