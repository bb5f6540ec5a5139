import Derived.Test.Qxb6605814aBase
import Derived.Deep.RegionHeld3
import Derived.Deep.DrawnRows
namespace Go.Proofs.Qxb6605814a
open Go.RowKit
attribute [local go_sem ↓] Go.wp_at_zero Go.wp_at_succ

/-- d bytes lie behind a. -/
def BytesIn (w : World) (a : Option Addr) (d : Nat) : Prop := ∀ j, j < d → ∃ (b off : Nat) (z : Int), a = some ⟨b, off, none⟩ ∧ w.cell? ⟨b, off + j, none⟩ = some (.int .u8 z)

/-- A slice of entries that came in: D j bytes of data in entry j. -/
def EntriesIn (w : World) (ao : Option Addr) (n : Nat) (D : Nat → Nat) : Prop :=
  (ao = none → n = 0) ∧ ∀ j, j < n → ∃ (b off : Nat) (x t y : Int) (a : Option Addr) (c : Nat), ao = some ⟨b, off, none⟩ ∧ w.cell? ⟨b, off + j * 4, none⟩ = some (.int .u64 x) ∧ w.cell? ⟨b, off + j * 4 + 1, none⟩ = some (.int .u64 t) ∧
    w.cell? ⟨b, off + j * 4 + 2, none⟩ = some (.int .u8 y) ∧ w.cell? ⟨b, off + j * 4 + 3, none⟩ = some (.slice a (D j) c) ∧ BytesIn w a (D j) ∧ (a = none → c = 0 ∧ D j = 0)

theorem BytesIn.below {w w' : World} {a : Option Addr} {d : Nat} (h : BytesIn w a d) (hb : Below w.heap.size w w') : BytesIn w' a d := fun j hj => by
  obtain ⟨b, off, z, ha, hc⟩ := h j hj
  exact ⟨b, off, z, ha, (hb.cell (p := ⟨b, off + j, none⟩) (World.block_lt_of_cell? w _ hc)).trans hc⟩

def EntBytes (n : Nat) (D : Nat → Nat) (r : Bool) : Prop := r = true → ∀ j, j < n → D j ≤ 1048576
def EntSmall (n : Nat) (D : Nat → Nat) (r : Bool) : Prop := r = false → n ≤ 16384 ∧ ∀ j, j < n → D j ≤ 1048576

set_option maxHeartbeats 400000 in
set_option maxRecDepth 100000 in
theorem bytes9_any (s : Int) (ao : Option Addr) (n c : Nat) (D : Nat → Nat) (w : World) (hs : EntriesIn w ao n D) :
    Calls Try.prog 9 #[.int .u64 s, .slice ao n c] w (Says w (EntBytes n D)) := by
  have HS : Hid (EntriesIn w ao n D) := hs
  clear hs
  by_cases h0 : n ≤ 1048576
  · go_enter Try.func9, Try.ntmps9
    go_wp2
    go_loop [5, 6] (fun vz vi => ∃ k z : Nat, vz = .int .i64 z ∧ vi = .int .i64 k ∧ k ≤ n ∧ z ≤ 1048576 ∧ ∀ j, j < k → D j ≤ 1048576) (fun _ vi => n - (intOf vi).toNat)
    case atStart => exact ⟨0, n, rfl, rfl, Nat.zero_le _, h0, fun j hj => absurd hj (Nat.not_lt_zero _)⟩
    case round =>
      obtain ⟨k, z, rfl, rfl, hk, hz, hsm⟩ := hrel
      have HSM : Hid (∀ j, j < k → D j ≤ 1048576) := hsm
      clear hsm
      by_cases hlt : k < n
      · obtain ⟨b, off, x, t, y, a, c', rfl, _, _, _, hc, _⟩ := HS.out.2 k hlt
        obtain ⟨L, hL0⟩ : ∃ L, L = D k := ⟨_, rfl⟩
        rw [← hL0] at hc
        have HL0 : Hid (L = D k) := hL0
        clear hL0
        by_cases hL : L ≤ 1048576
        · by_cases hzL : z + L ≤ 1048576
          · go_wp2
            go_round
            case rel =>
              refine ⟨k + 1, z + L, by go_num, by go_num, by omega, by omega, fun j hj => ?_⟩
              by_cases hjk : j = k
              · subst hjk
                rw [← HL0.out]; omega
              · exact HSM.out j (by omega)
            case measure => simp [intOf]; omega
          · go_wp2
            go_ret
            exact ⟨false, rfl, rfl, fun h => by cases h⟩
        · go_wp2
          go_ret
          exact ⟨false, rfl, rfl, fun h => by cases h⟩
      · go_wp2
        go_ret
        exact ⟨true, rfl, rfl, fun _ j hj => HSM.out j (by omega)⟩
  · go_enter Try.func9, Try.ntmps9
    go_wp2
    go_ret
    exact ⟨false, rfl, rfl, fun h => by cases h⟩

set_option maxHeartbeats 400000 in
set_option maxRecDepth 100000 in
theorem bytes13_any (s : Int) (ao : Option Addr) (n c : Nat) (D : Nat → Nat) (w : World) (hs : EntriesIn w ao n D) :
    Calls Try.prog 13 #[.int .u64 s, .slice ao n c] w (Says w (EntBytes n D)) := by
  have HS : Hid (EntriesIn w ao n D) := hs
  clear hs
  by_cases h0 : n ≤ 1048576
  · go_enter Try.func13, Try.ntmps13
    go_wp2
    go_loop [5, 6] (fun vz vi => ∃ k z : Nat, vz = .int .i64 z ∧ vi = .int .i64 k ∧ k ≤ n ∧ z ≤ 1048576 ∧ ∀ j, j < k → D j ≤ 1048576) (fun _ vi => n - (intOf vi).toNat)
    case atStart => exact ⟨0, n, rfl, rfl, Nat.zero_le _, h0, fun j hj => absurd hj (Nat.not_lt_zero _)⟩
    case round =>
      obtain ⟨k, z, rfl, rfl, hk, hz, hsm⟩ := hrel
      have HSM : Hid (∀ j, j < k → D j ≤ 1048576) := hsm
      clear hsm
      by_cases hlt : k < n
      · obtain ⟨b, off, x, t, y, a, c', rfl, _, _, _, hc, _⟩ := HS.out.2 k hlt
        obtain ⟨L, hL0⟩ : ∃ L, L = D k := ⟨_, rfl⟩
        rw [← hL0] at hc
        have HL0 : Hid (L = D k) := hL0
        clear hL0
        by_cases hL : L ≤ 1048576
        · by_cases hzL : z + L ≤ 1048576
          · go_wp2
            go_round
            case rel =>
              refine ⟨k + 1, z + L, by go_num, by go_num, by omega, by omega, fun j hj => ?_⟩
              by_cases hjk : j = k
              · subst hjk
                rw [← HL0.out]; omega
              · exact HSM.out j (by omega)
            case measure => simp [intOf]; omega
          · go_wp2
            go_ret
            exact ⟨false, rfl, rfl, fun h => by cases h⟩
        · go_wp2
          go_ret
          exact ⟨false, rfl, rfl, fun h => by cases h⟩
      · go_wp2
        go_ret
        exact ⟨true, rfl, rfl, fun _ j hj => HSM.out j (by omega)⟩
  · go_enter Try.func13, Try.ntmps13
    go_wp2
    go_ret
    exact ⟨false, rfl, rfl, fun h => by cases h⟩

set_option maxHeartbeats 400000 in
set_option maxRecDepth 100000 in
theorem entTooBig_any (ao : Option Addr) (n c : Nat) (D : Nat → Nat) (w : World) (hs : EntriesIn w ao n D) (hD : ∀ j, j < n → D j ≤ 1048576) :
    Calls Try.prog 10 #[.slice ao n c] w (Says w (EntSmall n D)) := by
  have HS : Hid (EntriesIn w ao n D) := hs
  have HD : Hid (∀ j, j < n → D j ≤ 1048576) := hD
  clear hs hD
  by_cases h0 : n ≤ 16384
  · go_enter Try.func10, Try.ntmps10
    go_wp2
    go_loop [3, 4] (fun vz vi => ∃ k z : Nat, vz = .int .i64 z ∧ vi = .int .i64 k ∧ k ≤ n ∧ z ≤ 1048576 ∧ ∀ j, j < k → D j ≤ 1048576) (fun _ vi => n - (intOf vi).toNat)
    case atStart => exact ⟨0, 48 * n, by go_num, rfl, Nat.zero_le _, by omega, fun j hj => absurd hj (Nat.not_lt_zero _)⟩
    case round =>
      obtain ⟨k, z, rfl, rfl, hk, hz, hsm⟩ := hrel
      have HSM : Hid (∀ j, j < k → D j ≤ 1048576) := hsm
      clear hsm
      by_cases hlt : k < n
      · obtain ⟨b, off, x, t, y, a, c', rfl, _, _, _, hc, _⟩ := HS.out.2 k hlt
        have hd := HD.out k hlt
        obtain ⟨L, hL0⟩ : ∃ L, L = D k := ⟨_, rfl⟩
        rw [← hL0] at hc hd
        have HL0 : Hid (L = D k) := hL0
        clear hL0
        by_cases hzL : z + L ≤ 1048576
        · go_wp2
          go_round
          case rel =>
            refine ⟨k + 1, z + L, by go_num, by go_num, by omega, by omega, fun j hj => ?_⟩
            by_cases hjk : j = k
            · subst hjk
              rw [← HL0.out]; omega
            · exact HSM.out j (by omega)
          case measure => simp [intOf]; omega
        · go_wp2
          go_ret
          exact ⟨true, rfl, rfl, fun h => by cases h⟩
      · go_wp2
        go_ret
        exact ⟨false, rfl, rfl, fun _ => ⟨h0, fun j hj => HSM.out j (by omega)⟩⟩
  · go_enter Try.func10, Try.ntmps10
    go_wp2
    go_ret
    exact ⟨true, rfl, rfl, fun h => by cases h⟩

/-- Some slice of n elements comes back; of old memory nothing has turned. -/
def SomeSlice (w : World) (n : Nat) (e : Ending) (w' : World) : Prop := ∃ a, e = .returned (.slice a n n) ∧ (a = none → n = 0) ∧ (∀ x, a = some x → ∃ g, x = ⟨g, 0, none⟩) ∧ Below w.heap.size w w'

set_option maxHeartbeats 400000 in
set_option maxRecDepth 100000 in
theorem cloneBytes_any (ao : Option Addr) (n c : Nat) (w : World) (hs : BytesIn w ao n) (hnil : ao = none → c = 0 ∧ n = 0) (hn : n ≤ 1048576) :
    Calls Try.prog 27 #[.slice ao n c] w (SomeSlice w n) := by
  have q : ∀ (w : World) (a : Option Addr) (n c n' c' : Nat), (binOp .eql 44 (.slice a n c) (.slice none n' c')).run Try.prog w = .ok (.bool a.isNone) w := fun w a n c n' c' => Lib.run_eql_slice_nil w _ _ a n c n' c' Try.underlying44
  cases ao with
  | none =>
    obtain ⟨rfl, rfl⟩ := hnil rfl
    clear hs hnil
    go_enter Try.func27, Try.ntmps27
    go_wp2
    go_ret
    exact ⟨none, rfl, fun _ => rfl, by simp, Below.refl _ _⟩
  | some ad =>
    have HS : Hid (BytesIn w (some ad) n) := hs
    clear hs hnil
    obtain ⟨i0, hi, hz0, hz1, hz2⟩ := info_parts Try.info5
    go_enter Try.func27, Try.ntmps27
    go_wp2_with (first
      | (at_make; refine wpList_make_full _ rfl _ _ 44 rfl w.heap.size 5 i0 (.int .u8 0) 1 Try.underlying44 hi hz0 hz1 _ _ _ _ n rfl rfl rfl rfl (by rw [hz2]; omega) (by unfold maxLen; omega) (Nat.le_refl _) ?_; intro w1 hown1 hgrow1))
    have hb1 := below_of_grown hgrow1
    clear hgrow1
    go_loopw [4] (fun vi wr => ∃ (k : Nat) (xs : List Value), vi = .int .i64 k ∧ k ≤ n ∧ wr.ownsRow w.heap.size 5 1 (.slice (some ⟨w.heap.size, 0, none⟩) n n) n xs ∧ Below w.heap.size w wr) (fun vi _ => n - (intOf vi).toNat)
    case atStart => exact ⟨0, _, rfl, Nat.zero_le _, hown1, hb1⟩
    case round =>
      clear hown1 hb1
      obtain ⟨k, xs, rfl, hk, ho, hb⟩ := hrel
      by_cases hlt : k < n
      · obtain ⟨b, off, z, had, hc⟩ := HS.out k hlt
        obtain rfl := Option.some.inj had
        rw [← hb.cell (p := ⟨b, off + k, none⟩) (World.block_lt_of_cell? w _ hc)] at hc
        have hxl : xs.length = n * 1 := ho.1
        obtain ⟨x0, f0⟩ : ∃ v, wr.cell? ⟨w.heap.size, k, none⟩ = some v := ⟨_, (ho.cellAt k (by omega)).trans (List.getElem?_eq_getElem (by omega))⟩
        have z0 := ho.frozenAt k
        have R1 := (ho.stored k (.int .u8 z)).1
        have R2 := hb.setCell (p := ⟨w.heap.size, k, none⟩) (Nat.le_refl _) (.int .u8 z)
        clear ho hb HS had hxl
        go_wp2
        go_roundw
        case rel => exact ⟨k + 1, _, by go_num, by omega, R1, R2⟩
        case measure => simp [intOf]; omega
      · go_wp2
        go_ret
        exact ⟨_, rfl, by simp, fun x hx => ⟨w.heap.size, (Option.some.inj hx).symm⟩, hb⟩

end Go.Proofs.Qxb6605814a
