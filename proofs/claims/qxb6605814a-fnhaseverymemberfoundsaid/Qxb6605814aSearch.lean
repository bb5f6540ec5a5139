import Derived.Test.Qxb6605814aNums
namespace Go.Proofs.Qxb6605814a
open Go.RowKit

theorem asc_le {zs : List Int} (h : Asc zs) : ∀ (d k : Nat) (a b : Int), zs[k]? = some a → zs[k + d]? = some b → a ≤ b
  | 0, k, a, b, ha, hb => by
    rw [Nat.add_zero, ha] at hb
    have := Option.some.inj hb
    omega
  | d + 1, k, a, b, ha, hb => by
    have hlt : k + d + 1 < zs.length := (List.getElem?_eq_some_iff.1 hb).1
    obtain ⟨c, hc⟩ : ∃ c, zs[k + d]? = some c := ⟨_, List.getElem?_eq_getElem (by omega)⟩
    have h1 := asc_le h d k a c ha hc
    have h2 := h (k + d) c b hc hb
    omega

theorem asc_of {zs : List Int} (h : Asc zs) {i j : Nat} {a b : Int} (hij : i ≤ j) (ha : zs[i]? = some a) (hb : zs[j]? = some b) : a ≤ b :=
  asc_le h (j - i) i a b ha (by rw [show i + (j - i) = j by omega]; exact hb)

theorem less_any (a b : Int) (w : World) : Calls Try.prog 35 #[.int .u64 a, .int .u64 b] w fun e w' => e = .returned (.bool (decide (a < b))) ∧ w = w' := by
  go_enter Try.func35, Try.ntmps35
  go_wp2
  go_ret
  exact ⟨rfl, rfl⟩

theorem isNaN_any (a : Int) (w : World) : Calls Try.prog 36 #[.int .u64 a] w fun e w' => e = .returned (.bool false) ∧ w = w' := by
  go_enter Try.func36, Try.ntmps36
  go_wp2
  go_ret
  exact ⟨by simp, rfl⟩

/-- What BinarySearch answers: some place, and whether x is there. -/
def Searched (w : World) (b : Bool) (e : Ending) (w' : World) : Prop := ∃ p : Int, e = .returned (.tuple #[.int .i64 p, .bool b]) ∧ w = w'

theorem mem_yes {zs : List Int} {i : Nat} {x : Int} (h : zs[i]? = some x) : memB zs x = true := decide_eq_true (List.mem_of_getElem? h)

theorem mem_no {zs : List Int} {i : Nat} {x : Int} (hl : ∀ (k : Nat) (a : Int), k < i → zs[k]? = some a → a < x) (hr : ∀ (k : Nat) (a : Int), i ≤ k → zs[k]? = some a → x < a) : memB zs x = false := by
  refine decide_eq_false (fun hm => ?_)
  obtain ⟨j, hj, he⟩ := List.mem_iff_getElem.1 hm
  have hg : zs[j]? = some x := by rw [List.getElem?_eq_getElem hj, he]
  by_cases hji : j < i
  · have := hl j x hji hg; omega
  · have := hr j x (by omega) hg; omega

set_option maxHeartbeats 800000 in
set_option maxRecDepth 100000 in
theorem search_any (ao : Option Addr) (n c : Nat) (zs : List Int) (x : Int) (w : World) (hs : Nums w ao n zs) (ha : Asc zs) (hn : n ≤ 65536) :
    Calls Try.prog 34 #[.slice ao n c, .int .u64 x] w (Searched w (memB zs x)) := by
  have HS : Hid (Nums w ao n zs) := hs
  have HA : Hid (Asc zs) := ha
  obtain ⟨bb, hbb⟩ : ∃ bb, bb = memB zs x := ⟨_, rfl⟩
  rw [← hbb]
  have HB : Hid (bb = memB zs x) := hbb
  clear hs ha hbb
  go_enter Try.func34, Try.ntmps34
  go_wp2
  go_loop [7, 8] (fun vi vj => ∃ i j : Nat, vi = .int .i64 i ∧ vj = .int .i64 j ∧ i ≤ j ∧ j ≤ n ∧ (∀ (k : Nat) (a : Int), k < i → zs[k]? = some a → a < x) ∧ (∀ (k : Nat) (a : Int), j ≤ k → zs[k]? = some a → x ≤ a)) (fun vi vj => (intOf vj).toNat - (intOf vi).toNat)
  case atStart => exact ⟨0, n, rfl, rfl, Nat.zero_le _, Nat.le_refl _, fun k a hk => absurd hk (Nat.not_lt_zero _), fun k a hk hz => by have h1 := (List.getElem?_eq_some_iff.1 hz).1; rw [HS.out.1] at h1; omega⟩
  case round =>
    obtain ⟨i, j, rfl, rfl, hij, hjn, hl, hr⟩ := hrel
    have HLo : Hid (∀ (k : Nat) (a : Int), k < i → zs[k]? = some a → a < x) := hl
    have HHi : Hid (∀ (k : Nat) (a : Int), j ≤ k → zs[k]? = some a → x ≤ a) := hr
    clear hl hr
    by_cases hlt : i < j
    · obtain ⟨z, hz⟩ : ∃ z, zs[(i + j) / 2]? = some z := ⟨_, List.getElem?_eq_getElem (by rw [HS.out.1]; omega)⟩
      obtain ⟨b, off, rfl, hc⟩ := HS.out.2.2 _ z hz
      have HZ : Hid (zs[(i + j) / 2]? = some z) := hz
      clear hz
      have h1 : ((i : Int) + (j : Int)) / 2 < (n : Int) := by omega
      by_cases hzx : z < x
      · have hd : decide (z < x) = true := by simpa using hzx
        go_wp2_with (go_at_call 35; refine (less_any _ _ _).mono ?_; rintro e w' ⟨rfl, rfl⟩)
        go_round
        case rel =>
          refine ⟨(i + j) / 2 + 1, j, by go_num, rfl, by omega, hjn, fun k a hk hka => ?_, HHi.out⟩
          have := asc_of HA.out (show k ≤ (i + j) / 2 by omega) hka HZ.out
          omega
        case measure => simp [intOf]; omega
      · have hd : decide (z < x) = false := by simpa using hzx
        go_wp2_with (go_at_call 35; refine (less_any _ _ _).mono ?_; rintro e w' ⟨rfl, rfl⟩)
        go_round
        case rel =>
          refine ⟨i, (i + j) / 2, rfl, by go_num, by omega, by omega, HLo.out, fun k a hk hka => ?_⟩
          have := asc_of HA.out hk HZ.out hka
          omega
        case measure => simp [intOf]; omega
    · obtain rfl : i = j := by omega
      by_cases hin : i < n
      · obtain ⟨z, hz⟩ : ∃ z, zs[i]? = some z := ⟨_, List.getElem?_eq_getElem (by rw [HS.out.1]; omega)⟩
        obtain ⟨b, off, rfl, hc⟩ := HS.out.2.2 _ z hz
        have HZ : Hid (zs[i]? = some z) := hz
        clear hz
        have h1 : (i : Int) < (n : Int) := by omega
        by_cases hzx : z = x
        · subst hzx
          obtain rfl : bb = true := by rw [HB.out]; exact mem_yes HZ.out
          go_wp2_with (go_at_call 36; refine (isNaN_any _ _).mono ?_; rintro e w' ⟨rfl, rfl⟩)
          go_ret2
          exact ⟨_, rfl, rfl⟩
        · have hd : (z == x) = false := by simpa using hzx
          obtain rfl : bb = false := by
            rw [HB.out]
            refine mem_no HLo.out (fun k a hk hka => ?_)
            have h2 := asc_of HA.out hk HZ.out hka
            have h3 := HHi.out i z (Nat.le_refl _) HZ.out
            omega
          go_wp2_with (go_at_call 36; refine (isNaN_any _ _).mono ?_; rintro e w' ⟨rfl, rfl⟩)
          go_ret2
          exact ⟨_, rfl, rfl⟩
      · obtain rfl : bb = false := by
          rw [HB.out]
          exact mem_no HLo.out (fun k a hk hka => by have h2 := (List.getElem?_eq_some_iff.1 hka).1; rw [HS.out.1] at h2; omega)
        go_wp2_with (go_at_call 36; refine (isNaN_any _ _).mono ?_; rintro e w' ⟨rfl, rfl⟩)
        go_ret2
        exact ⟨_, rfl, rfl⟩

end Go.Proofs.Qxb6605814a
