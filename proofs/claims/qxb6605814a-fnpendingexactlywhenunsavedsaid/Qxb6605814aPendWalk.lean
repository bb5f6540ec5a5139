import Derived.Test.Qxb6605814aToEntries
import Derived.Test.Qxb6605814aPending
namespace Go.Proofs.Qxb6605814a
open Go.RowKit

set_option maxHeartbeats 800000 in
set_option maxRecDepth 100000 in
theorem pend_walk (s : Int) (ao : Option Addr) (n c : Nat) (D : Nat → Nat) (w : World) (h0 : 0 ≤ s) (hs : EntriesIn w ao n D) (hnil : ao = none → c = 0) :
    Calls Try.prog 3 #[.int .u64 s, .slice ao n c] w (Good w) := by
  have HS : Hid (EntriesIn w ao n D) := hs
  have HN : Hid (ao = none → c = 0) := hnil
  clear hs hnil
  go_enter Try.func3, Try.ntmps3
  go_wp2_with fail
  refine (bytes9_any _ _ _ _ D _ HS.out).mono ?_
  rintro e w' ⟨r, rfl, rfl, hr⟩
  cases r with
  | false =>
    go_wp2
    go_ret
    exact ⟨rfl, Below.refl _ _⟩
  | true =>
    have HB : Hid (∀ j, j < n → D j ≤ 1048576) := hr rfl
    clear hr
    go_wp2_with fail
    refine (entTooBig_any _ _ _ D _ HS.out HB.out).mono ?_
    rintro e w' ⟨r, rfl, rfl, hr⟩
    cases r with
    | true =>
      go_wp2
      go_ret
      exact ⟨rfl, Below.refl _ _⟩
    | false =>
      obtain ⟨hn, _⟩ := hr rfl
      clear hr
      by_cases hm : s ≤ 18446744073709551615 - (n : Int)
      · go_wp2_with fail
        refine (toEntries_any _ _ _ D _ HS.out HN.out hn HB.out).mono ?_
        rintro e w1 ⟨a1, rfl, _, _, B1⟩
        go_wp2_with fail
        refine (zpending_any s a1 n n w1 h0 (by omega)).mono ?_
        rintro e w2 ⟨rfl, B2⟩
        have B3 := B1.trans (B2.mono B1.size)
        clear B1 B2
        by_cases hz : n = 0
        · subst hz
          go_wp2
          go_ret
          exact ⟨by simp, B3⟩
        · have hd : decide (0 < n) = true := by simp; omega
          rw [hd]
          have hd2 : (0 : Int) < (n : Int) := by omega
          go_wp2
          go_ret
          exact ⟨by simp, B3⟩
      · go_wp2
        go_ret
        exact ⟨rfl, Below.refl _ _⟩

set_option maxHeartbeats 1600000 in
set_option maxRecDepth 100000 in
theorem script_walk (s : Int) (ao : Option Addr) (n c : Nat) (D : Nat → Nat) (w : World) (h0 : 0 ≤ s) (hs : EntriesIn w ao n D) (hnil : ao = none → c = 0) :
    Calls Try.prog 4 #[.int .u64 s, .slice ao n c] w (Good w) := by
  have HS : Hid (EntriesIn w ao n D) := hs
  have HN : Hid (ao = none → c = 0) := hnil
  clear hs hnil
  go_enter Try.func4, Try.ntmps4
  go_wp2_with fail
  refine (bytes13_any _ _ _ _ D _ HS.out).mono ?_
  rintro e w' ⟨r, rfl, rfl, hr⟩
  cases r with
  | false =>
    go_wp2
    go_ret
    exact ⟨rfl, Below.refl _ _⟩
  | true =>
    have HB : Hid (∀ j, j < n → D j ≤ 1048576) := hr rfl
    clear hr
    go_wp2_with fail
    refine (entTooBig_any _ _ _ D _ HS.out HB.out).mono ?_
    rintro e w' ⟨r, rfl, rfl, hr⟩
    cases r with
    | true =>
      go_wp2
      go_ret
      exact ⟨rfl, Below.refl _ _⟩
    | false =>
      obtain ⟨hn, _⟩ := hr rfl
      clear hr
      by_cases hm : s ≤ 18446744073709551615 - (n : Int)
      · go_wp2_with fail
        refine (toEntries_any _ _ _ D _ HS.out HN.out hn HB.out).mono ?_
        rintro e w1 ⟨a1, rfl, ha0, ha1, B1⟩
        have HA0 : Hid (a1 = none → n = 0) := ha0
        clear ha0 HS HN HB
        cases a1 with
        | none =>
          obtain rfl := HA0.out rfl
          clear ha1
          have hs1 : s ≤ 18446744073709551615 := by omega
          go_wp2_with fail
          go_loopw [8] (fun vk wr => ∃ k : Nat, vk = .int .i64 k ∧ k ≤ 1 ∧ Below w.heap.size w wr) (fun vk _ => 1 - (intOf vk).toNat)
          case atStart => exact ⟨0, rfl, Nat.zero_le _, B1⟩
          case round =>
            clear B1
            obtain ⟨k, rfl, hk, hb⟩ := hrel
            by_cases hlt : k = 0
            · subst hlt
              go_wp2_with fail
              have hz := zlast_any s none 0 0 wr (by omega) (by simpa using hs1)
              rw [show s + ((0 : Nat) : Int) = s by omega] at hz
              refine hz.mono ?_
              rintro e w2 ⟨rfl, B2⟩
              have hb2 := hb.trans (B2.mono hb.size)
              clear B2 hb
              go_wp2_with fail
              refine (zpending_any s none 0 0 w2 (by omega) (by simpa using hs1)).mono ?_
              rintro e w3 ⟨rfl, B3⟩
              have hb3 := hb2.trans (B3.mono hb2.size)
              clear B3 hb2
              go_wp2
              go_roundw
              case rel => exact ⟨1, by go_num, by omega, hb3⟩
              case measure => simp [intOf]
            · obtain rfl : k = 1 := by omega
              go_wp2
              go_ret
              exact ⟨rfl, hb⟩
        | some x =>
          obtain ⟨g, rfl⟩ := ha1 x rfl
          clear ha1
          go_wp2_with fail
          go_loopw [8] (fun vk wr => ∃ k : Nat, vk = .int .i64 k ∧ k ≤ n + 1 ∧ Below w.heap.size w wr) (fun vk _ => n + 1 - (intOf vk).toNat)
          case atStart => exact ⟨0, rfl, Nat.zero_le _, B1⟩
          case round =>
            clear B1
            obtain ⟨k, rfl, hk, hb⟩ := hrel
            by_cases hlt : k ≤ n
            · have hk1 : (k : Int) ≤ (n : Int) := by omega
              have hsk : s + (k : Int) ≤ 18446744073709551615 := by omega
              by_cases hkn : k = n
              · subst hkn
                go_wp2_with fail
                have hz := zlast_any (s + (k : Int)) (some ⟨g, 0, none⟩) 0 0 wr (by omega) (by simpa using hsk)
                rw [show s + (k : Int) + ((0 : Nat) : Int) = s + (k : Int) by omega] at hz
                refine hz.mono ?_
                rintro e w2 ⟨rfl, B2⟩
                have hb2 := hb.trans (B2.mono hb.size)
                clear B2 hb
                go_wp2_with fail
                refine (zpending_any (s + (k : Int)) (some ⟨g, 0, none⟩) 0 0 w2 (by omega) (by simpa using hsk)).mono ?_
                rintro e w3 ⟨rfl, B3⟩
                have hb3 := hb2.trans (B3.mono hb2.size)
                clear B3 hb2
                go_wp2
                go_roundw
                case rel => exact ⟨k + 1, by go_num, by omega, hb3⟩
                case measure => simp [intOf]
              · have hnk : ¬ n = k := by omega
                have hk2 : (k : Int) < (n : Int) := by omega
                go_wp2_with fail
                have hz := zlast_any (s + (k : Int)) (some ⟨g, k * 4, none⟩) (n - k) (n - k) wr (by omega) (by omega)
                rw [show s + (k : Int) + ((n - k : Nat) : Int) = s + (n : Int) by omega] at hz
                refine hz.mono ?_
                rintro e w2 ⟨rfl, B2⟩
                have hb2 := hb.trans (B2.mono hb.size)
                clear B2 hb
                go_wp2_with fail
                have hq := zpending_any (s + (k : Int)) (some ⟨g, k * 4, none⟩) (n - k) (n - k) w2 (by omega) (by omega)
                unfold PendZ at hq
                rw [show decide (0 < n - k) = true by simp; omega] at hq
                refine hq.mono ?_
                rintro e w3 ⟨rfl, B3⟩
                have hb3 := hb2.trans (B3.mono hb2.size)
                clear B3 hb2
                go_wp2
                go_roundw
                case rel => exact ⟨k + 1, by go_num, by omega, hb3⟩
                case measure => simp [intOf]; omega
            · go_wp2
              go_ret
              exact ⟨rfl, hb⟩
      · go_wp2
        go_ret
        exact ⟨rfl, Below.refl _ _⟩

end Go.Proofs.Qxb6605814a
