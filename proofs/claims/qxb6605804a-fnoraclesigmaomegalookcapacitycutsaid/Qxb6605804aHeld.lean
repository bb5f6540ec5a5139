import Derived.Test.Qxb6605804aBase
import Derived.WalkSpells
namespace Go.Proofs.Qxb6605804a
open Go.RowKit

def pcells (row : List (Int × Int)) : List Value := row.flatMap fun p => [.int .i64 p.1, .int .i64 p.2]

/-- A slice of rows of pairs that came in. -/
def HeldIn (w : World) (ao : Option Addr) (n : Nat) (Hs : List (List (Int × Int))) : Prop :=
  Hs.length = n ∧ (ao = none → n = 0) ∧ ∀ j row, Hs[j]? = some row → ∃ b off a c, ao = some ⟨b, off, none⟩ ∧ w.cell? ⟨b, off + j, none⟩ = some (.slice a row.length c) ∧ Sees w (.slice a row.length c) row.length (pcells row)

def Triv (_ : Bool) : Prop := True
def HeldSmall (n : Nat) (Hs : List (List (Int × Int))) (r : Bool) : Prop := r = false → n ≤ 65536 ∧ ∀ (j : Nat) (row : List (Int × Int)), Hs[j]? = some row → row.length ≤ 65536
def Within2 (i s : Int) (n : Nat) (r : Bool) : Prop := r = true → 0 ≤ i ∧ i < (n : Int) ∧ 1 ≤ s

set_option maxHeartbeats 400000 in
set_option maxRecDepth 100000 in
theorem bytes9_any (x0 x1 x2 x4 x5 x7 : Int) (x6 : Bool) (ao : Option Addr) (n c : Nat) (Hs : List (List (Int × Int))) (w : World) (hs : HeldIn w ao n Hs) :
    Calls Try.prog 9 #[.int .i64 x0, .int .i64 x1, .int .i64 x2, .slice ao n c, .int .i64 x4, .int .i64 x5, .bool x6, .int .i64 x7] w (Says w Triv) := by
  obtain ⟨hl, _, hrow⟩ := hs
  have HL : Hid (Hs.length = n) := hl
  clear hl
  by_cases h0 : n ≤ 1048576
  · go_enter Try.func9, Try.ntmps9
    go_wp2
    go_loop [17, 18] (fun vz vi => ∃ k z : Nat, vz = .int .i64 z ∧ vi = .int .i64 k ∧ k ≤ n ∧ z ≤ 1048576) (fun _ vi => n - (intOf vi).toNat)
    case atStart => exact ⟨0, n, rfl, rfl, Nat.zero_le _, h0⟩
    case round =>
      obtain ⟨k, z, rfl, rfl, hk, hz⟩ := hrel
      by_cases hlt : k < n
      · obtain ⟨row, hrk⟩ : ∃ row, Hs[k]? = some row := ⟨_, List.getElem?_eq_getElem (by rw [HL.out]; exact hlt)⟩
        obtain ⟨b, off, a, c', rfl, hc, _⟩ := hrow k row hrk
        generalize row.length = L at hc
        clear hrow hrk
        by_cases hL : L ≤ 1048576
        · by_cases hzL : z + L ≤ 1048576
          · go_wp2
            go_round
            case rel => exact ⟨k + 1, z + L, by go_num, by go_num, by omega, by omega⟩
            case measure => simp [intOf]; omega
          · go_wp2
            go_ret
            exact ⟨false, rfl, rfl, trivial⟩
        · go_wp2
          go_ret
          exact ⟨false, rfl, rfl, trivial⟩
      · go_wp2
        go_ret
        exact ⟨true, rfl, rfl, trivial⟩
  · go_enter Try.func9, Try.ntmps9
    go_wp2
    go_ret
    exact ⟨false, rfl, rfl, trivial⟩

set_option maxHeartbeats 400000 in
set_option maxRecDepth 100000 in
theorem bytes18_any (x0 x1 x2 x4 x5 x7 : Int) (x6 : Bool) (ao : Option Addr) (n c : Nat) (Hs : List (List (Int × Int))) (w : World) (hs : HeldIn w ao n Hs) :
    Calls Try.prog 18 #[.int .i64 x0, .int .i64 x1, .int .i64 x2, .slice ao n c, .int .i64 x4, .int .i64 x5, .bool x6, .int .i64 x7] w (Says w Triv) := by
  obtain ⟨hl, _, hrow⟩ := hs
  have HL : Hid (Hs.length = n) := hl
  clear hl
  by_cases h0 : n ≤ 1048576
  · go_enter Try.func18, Try.ntmps18
    go_wp2
    go_loop [17, 18] (fun vz vi => ∃ k z : Nat, vz = .int .i64 z ∧ vi = .int .i64 k ∧ k ≤ n ∧ z ≤ 1048576) (fun _ vi => n - (intOf vi).toNat)
    case atStart => exact ⟨0, n, rfl, rfl, Nat.zero_le _, h0⟩
    case round =>
      obtain ⟨k, z, rfl, rfl, hk, hz⟩ := hrel
      by_cases hlt : k < n
      · obtain ⟨row, hrk⟩ : ∃ row, Hs[k]? = some row := ⟨_, List.getElem?_eq_getElem (by rw [HL.out]; exact hlt)⟩
        obtain ⟨b, off, a, c', rfl, hc, _⟩ := hrow k row hrk
        generalize row.length = L at hc
        clear hrow hrk
        by_cases hL : L ≤ 1048576
        · by_cases hzL : z + L ≤ 1048576
          · go_wp2
            go_round
            case rel => exact ⟨k + 1, z + L, by go_num, by go_num, by omega, by omega⟩
            case measure => simp [intOf]; omega
          · go_wp2
            go_ret
            exact ⟨false, rfl, rfl, trivial⟩
        · go_wp2
          go_ret
          exact ⟨false, rfl, rfl, trivial⟩
      · go_wp2
        go_ret
        exact ⟨true, rfl, rfl, trivial⟩
  · go_enter Try.func18, Try.ntmps18
    go_wp2
    go_ret
    exact ⟨false, rfl, rfl, trivial⟩

set_option maxHeartbeats 400000 in
set_option maxRecDepth 100000 in
theorem heldTooBig_any (ao : Option Addr) (n c : Nat) (Hs : List (List (Int × Int))) (w : World) (hs : HeldIn w ao n Hs) :
    Calls Try.prog 10 #[.slice ao n c] w (Says w (HeldSmall n Hs)) := by
  obtain ⟨hl, _, hrow⟩ := hs
  have HL : Hid (Hs.length = n) := hl
  clear hl
  by_cases h0 : n ≤ 65536
  · go_enter Try.func10, Try.ntmps10
    go_wp2
    go_loop [3, 4] (fun vz vi => ∃ k z : Nat, vz = .int .i64 z ∧ vi = .int .i64 k ∧ k ≤ n ∧ z ≤ 1572864 ∧ ∀ j row, j < k → Hs[j]? = some row → row.length ≤ 65536) (fun _ vi => n - (intOf vi).toNat)
    case atStart => exact ⟨0, 24 * n, by go_num, rfl, Nat.zero_le _, by omega, fun j row hj => absurd hj (Nat.not_lt_zero _)⟩
    case round =>
      obtain ⟨k, z, rfl, rfl, hk, hz, hsm⟩ := hrel
      have HSM : Hid (∀ j row, j < k → Hs[j]? = some row → row.length ≤ 65536) := hsm
      clear hsm
      by_cases hlt : k < n
      · obtain ⟨row, hrk⟩ : ∃ row, Hs[k]? = some row := ⟨_, List.getElem?_eq_getElem (by rw [HL.out]; exact hlt)⟩
        obtain ⟨b, off, a, c', rfl, hc, _⟩ := hrow k row hrk
        obtain ⟨L, hLr⟩ : ∃ L, L = row.length := ⟨_, rfl⟩
        rw [← hLr] at hc
        have HLR : Hid (L = row.length) := hLr
        have HRK : Hid (Hs[k]? = some row) := hrk
        clear hrow hrk hLr
        by_cases hL : L ≤ 65536
        · by_cases hzL : z + 16 * L ≤ 1048576
          · go_wp2
            go_round
            case rel =>
              refine ⟨k + 1, z + 16 * L, by go_num, by go_num, by omega, by omega, fun j r hj hr => ?_⟩
              by_cases hjk : j = k
              · subst hjk
                rw [HRK.out] at hr
                obtain rfl := Option.some.inj hr
                rw [← HLR.out]; exact hL
              · exact HSM.out j r (by omega) hr
            case measure => simp [intOf]; omega
          · go_wp2
            go_ret
            exact ⟨true, rfl, rfl, fun h => by cases h⟩
        · go_wp2
          go_ret
          exact ⟨true, rfl, rfl, fun h => by cases h⟩
      · go_wp2
        go_ret
        exact ⟨false, rfl, rfl, fun _ => ⟨h0, fun j r hr => HSM.out j r (by have := (List.getElem?_eq_some_iff.1 hr).1; rw [HL.out] at this; omega) hr⟩⟩
  · go_enter Try.func10, Try.ntmps10
    go_wp2
    go_ret
    exact ⟨true, rfl, rfl, fun h => by cases h⟩

theorem lookPremise_any (a0 : Option Addr) (n0 c0 : Nat) (i s : Int) (w : World) :
    Calls Try.prog 11 #[.slice a0 n0 c0, .int .i64 i, .int .i64 s] w (Says w (Within2 i s n0)) := by
  by_cases h0 : 0 ≤ i
  · by_cases h1 : i < (n0 : Int)
    · by_cases h2 : 1 ≤ s
      · go_enter Try.func11, Try.ntmps11
        go_wp2
        go_ret
        exact ⟨true, rfl, rfl, fun _ => ⟨h0, h1, h2⟩⟩
      · go_enter Try.func11, Try.ntmps11
        go_wp2
        go_ret
        exact ⟨false, rfl, rfl, fun h => by cases h⟩
    · go_enter Try.func11, Try.ntmps11
      go_wp2
      go_ret
      exact ⟨false, rfl, rfl, fun h => by cases h⟩
  · go_enter Try.func11, Try.ntmps11
    go_wp2
    go_ret
    exact ⟨false, rfl, rfl, fun h => by cases h⟩

end Go.Proofs.Qxb6605804a
