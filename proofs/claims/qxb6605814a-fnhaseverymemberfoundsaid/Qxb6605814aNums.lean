import Derived.Test.Qxb6605814aBase
import Derived.Deep.QuietTactic
import Derived.BigQuiet
namespace Go.Proofs.Qxb6605814a
open Go.RowKit

/-- The numbers zs lie behind ao. -/
def Nums (w : World) (ao : Option Addr) (n : Nat) (zs : List Int) : Prop :=
  zs.length = n ∧ (ao = none → n = 0) ∧ ∀ j z, zs[j]? = some z → ∃ b off, ao = some ⟨b, off, none⟩ ∧ w.cell? ⟨b, off + j, none⟩ = some (.int .u64 z)

theorem Nums.below {w w' : World} {ao : Option Addr} {n : Nat} {zs : List Int} (h : Nums w ao n zs) (hb : Below w.heap.size w w') : Nums w' ao n zs :=
  ⟨h.1, h.2.1, fun j z hj => by
    obtain ⟨b, off, ha, hc⟩ := h.2.2 j z hj
    exact ⟨b, off, ha, (hb.cell (p := ⟨b, off + j, none⟩) (World.block_lt_of_cell? w _ hc)).trans hc⟩⟩

theorem Nums.of_owns {w : World} {base : Nat} {e : TypeId} {v : Value} {n : Nat} {zs : List Int} (h : w.ownsRow base e 1 v n (zs.map (Value.int .u64))) : ∃ ao c, v = .slice ao n c ∧ Nums w ao n zs := by
  have hl : zs.length = n := by have := h.1; simpa using this
  have h' := h
  rcases h'.2 with ⟨rfl, rfl⟩ | ⟨g, cap, cur, rfl, _⟩
  · exact ⟨none, 0, rfl, hl, fun _ => rfl, fun j z hj => by rw [List.eq_nil_of_length_eq_zero hl] at hj; simp at hj⟩
  · refine ⟨_, cap, rfl, hl, by simp, fun j z hj => ⟨g, 0, rfl, ?_⟩⟩
    have hjl := (List.getElem?_eq_some_iff.1 hj).1
    rw [Nat.zero_add, h.cellAt j (by omega), List.getElem?_map, hj]
    rfl

/-- In ascending order. -/
def Asc (zs : List Int) : Prop := ∀ (j : Nat) (a b : Int), zs[j]? = some a → zs[j + 1]? = some b → a ≤ b

/-- Does x stand in zs? -/
def memB (zs : List Int) (x : Int) : Bool := decide (x ∈ zs)

def AscEnd (w : World) (zs : List Int) (e : Ending) (w' : World) : Prop := ∃ (r : Bool) (m : Nat), e = .returned (.bool r) ∧ w.drewN m = w' ∧ (r = true → Asc zs)

set_option maxHeartbeats 400000 in
set_option maxRecDepth 100000 in
theorem ascending_any (ao : Option Addr) (n c : Nat) (zs : List Int) (w : World) (hs : Nums w ao n zs) (hn : n ≤ 65536) :
    Calls Try.prog 22 #[.slice ao n c] w (AscEnd w zs) := by
  have HS : Hid (Nums w ao n zs) := hs
  clear hs
  go_enter Try.func22, Try.ntmps22
  go_wp2
  go_loopw [3] (fun vi wr => ∃ k m : Nat, vi = .int .i64 ((k : Int) + 1) ∧ (k + 1 ≤ n ∨ k = 0) ∧ wr = w.drewN m ∧ ∀ (j : Nat) (a b : Int), j < k → zs[j]? = some a → zs[j + 1]? = some b → a ≤ b) (fun vi _ => n - (intOf vi).toNat)
  case atStart => exact ⟨0, 0, rfl, .inr rfl, rfl, fun j _ _ hj => absurd hj (Nat.not_lt_zero _)⟩
  case round =>
    obtain ⟨k, m, rfl, hk, rfl, hasc⟩ := hrel
    have HA : Hid (∀ (j : Nat) (a b : Int), j < k → zs[j]? = some a → zs[j + 1]? = some b → a ≤ b) := hasc
    clear hasc
    have hkb : k ≤ 65536 := by omega
    by_cases hlt : k + 1 < n
    · obtain ⟨x, hx⟩ : ∃ x, zs[k]? = some x := ⟨_, List.getElem?_eq_getElem (by rw [HS.out.1]; omega)⟩
      obtain ⟨y, hy⟩ : ∃ y, zs[k + 1]? = some y := ⟨_, List.getElem?_eq_getElem (by rw [HS.out.1]; omega)⟩
      obtain ⟨b, off, rfl, hc0⟩ := HS.out.2.2 k x hx
      obtain ⟨b', off', h2, hc1⟩ := HS.out.2.2 (k + 1) y hy
      simp only [Option.some.injEq, Addr.mk.injEq, and_true] at h2
      obtain ⟨rfl, rfl⟩ := h2
      have HX : Hid (zs[k]? = some x) := hx
      have HY : Hid (zs[k + 1]? = some y) := hy
      clear hx hy
      have h1 : (k : Int) + 1 < (n : Int) := by omega
      have h2 : (k : Int) < (n : Int) := by omega
      have hw : IntKind.i64.wrap ((k : Int) + 1 - 1) = (k : Int) := by rw [IntKind.wrap_i64]; omega
      by_cases hxy : y < x
      · go_wp2_with fail
        go_quiet (fail)
        go_wp2
        go_ret
        exact ⟨false, m + nq, rfl, by rw [World.drewN_drewN], fun h => by cases h⟩
      · have hd : decide (y < x) = false := by simpa using hxy
        go_wp2_with fail
        go_quiet (fail)
        go_wp2
        go_roundw
        case rel =>
          refine ⟨k + 1, _, by go_num, by omega, rfl, fun j a b hj ha hb => ?_⟩
          by_cases hjk : j = k
          · subst hjk
            rw [HX.out] at ha
            rw [HY.out] at hb
            obtain rfl := Option.some.inj ha
            obtain rfl := Option.some.inj hb
            omega
          · exact HA.out j a b (by omega) ha hb
        case measure => simp [intOf]; omega
    · have hlen := HS.out.1
      have HLen : Hid (zs.length = n) := hlen
      clear hlen
      go_wp2
      go_ret
      exact ⟨true, m, rfl, rfl, fun _ j a b ha hb => HA.out j a b (by have h1 := (List.getElem?_eq_some_iff.1 hb).1; rw [HLen.out] at h1; omega) ha hb⟩

theorem Try.info37 : (Try.prog.info? 37).map (fun i => (i.zero, i.size, i.bytes)) = some (some (.int .u64 0), 1, 8) := by kernel_rfl

def IDs (w : World) (n : Nat) (zs : List Int) (e : Ending) (w' : World) : Prop := ∃ v, e = .returned v ∧ w'.ownsRow w.heap.size 37 1 v n (zs.map (Value.int .u64)) ∧ Below w.heap.size w w'

theorem take_set {xs : List Value} {zs : List Int} {k : Nat} {z : Int} (hx : xs.take k = (zs.map (Value.int .u64)).take k) (hl : k < xs.length) (hz : zs[k]? = some z) :
    (xs.set k (.int .u64 z)).take (k + 1) = (zs.map (Value.int .u64)).take (k + 1) := by
  apply List.ext_getElem?
  intro j
  rw [List.getElem?_take, List.getElem?_take]
  by_cases hj : j < k + 1
  · rw [if_pos hj, if_pos hj]
    by_cases hjk : j = k
    · subst hjk
      rw [List.getElem?_set_self hl, List.getElem?_map, hz]
      rfl
    · rw [List.getElem?_set_ne (by omega)]
      have h := congrArg (fun l => l[j]?) hx
      simp only [List.getElem?_take] at h
      rwa [if_pos (by omega), if_pos (by omega)] at h
  · rw [if_neg hj, if_neg hj]

set_option maxHeartbeats 400000 in
set_option maxRecDepth 100000 in
theorem toIDs_any (ao : Option Addr) (n c : Nat) (zs : List Int) (w : World) (hs : Nums w ao n zs) (hnil : ao = none → c = 0) (hn : n ≤ 65536) :
    Calls Try.prog 24 #[.slice ao n c] w (IDs w n zs) := by
  have q : ∀ (w : World) (a : Option Addr) (n c n' c' : Nat), (binOp .eql 30 (.slice a n c) (.slice none n' c')).run Try.prog w = .ok (.bool a.isNone) w := fun w a n c n' c' => Lib.run_eql_slice_nil w _ _ a n c n' c' Try.underlying30
  cases ao with
  | none =>
    obtain rfl := hnil rfl
    obtain rfl := hs.2.1 rfl
    obtain rfl : zs = [] := List.eq_nil_of_length_eq_zero hs.1
    clear hs hnil
    go_enter Try.func24, Try.ntmps24
    go_wp2
    go_ret
    exact ⟨_, rfl, World.ownsRow_nil _ _ _ _, Below.refl _ _⟩
  | some ad =>
    have HS : Hid (Nums w (some ad) n zs) := hs
    clear hs hnil
    obtain ⟨i0, hi, hz0, hz1, hz2⟩ := info_parts Try.info37
    go_enter Try.func24, Try.ntmps24
    go_wp2_with (first
      | (at_make; refine wpList_make_full _ rfl _ _ 32 rfl w.heap.size 37 i0 (.int .u64 0) 1 Try.underlying32 hi hz0 hz1 _ _ _ _ n rfl rfl rfl rfl (by rw [hz2]; omega) (by unfold maxLen; omega) (Nat.le_refl _) ?_; intro w1 hown1 hgrow1))
    have hb1 := below_of_grown hgrow1
    clear hgrow1
    go_loopw [4] (fun vi wr => ∃ (k : Nat) (xs : List Value), vi = .int .i64 k ∧ k ≤ n ∧ wr.ownsRow w.heap.size 37 1 (.slice (some ⟨w.heap.size, 0, none⟩) n n) n xs ∧ xs.take k = (zs.map (Value.int .u64)).take k ∧ Below w.heap.size w wr) (fun vi _ => n - (intOf vi).toNat)
    case atStart => exact ⟨0, _, rfl, Nat.zero_le _, hown1, by simp, hb1⟩
    case round =>
      clear hown1 hb1
      obtain ⟨k, xs, rfl, hk, ho, htk, hb⟩ := hrel
      have HTK : Hid (xs.take k = (zs.map (Value.int .u64)).take k) := htk
      clear htk
      have hxl : xs.length = n * 1 := ho.1
      have HXL : Hid (xs.length = n * 1) := hxl
      by_cases hlt : k < n
      · obtain ⟨z, hz⟩ : ∃ z, zs[k]? = some z := ⟨_, List.getElem?_eq_getElem (by rw [HS.out.1]; exact hlt)⟩
        obtain ⟨b, off, had, hc⟩ := HS.out.2.2 k z hz
        obtain rfl := Option.some.inj had
        rw [← hb.cell (p := ⟨b, off + k, none⟩) (World.block_lt_of_cell? w _ hc)] at hc
        obtain ⟨x0, f0⟩ : ∃ v, wr.cell? ⟨w.heap.size, k, none⟩ = some v := ⟨_, (ho.cellAt k (by omega)).trans (List.getElem?_eq_getElem (by omega))⟩
        have z0 := ho.frozenAt k
        have R1 := (ho.stored k (.int .u64 z)).1
        have R2 := hb.setCell (p := ⟨w.heap.size, k, none⟩) (Nat.le_refl _) (.int .u64 z)
        have R3 := take_set HTK.out (by omega) hz
        clear ho hb HS had hxl hz HTK
        go_wp2
        go_roundw
        case rel => exact ⟨k + 1, _, by go_num, by omega, R1, R3, R2⟩
        case measure => simp [intOf]; omega
      · obtain rfl : k = n := by omega
        have hz := HS.out.1
        have hfull : xs = zs.map (Value.int .u64) := by
          have h := HTK.out
          rwa [List.take_of_length_le (by omega), List.take_of_length_le (by simp; omega)] at h
        rw [hfull] at ho
        clear hfull hz hxl HTK
        go_wp2
        go_ret
        exact ⟨_, rfl, ho, hb⟩

set_option maxHeartbeats 400000 in
set_option maxRecDepth 100000 in
theorem scan_any (ao : Option Addr) (n c : Nat) (zs : List Int) (x : Int) (w : World) (hs : Nums w ao n zs) (hn : n ≤ 65536) :
    Calls Try.prog 25 #[.slice ao n c, .int .u64 x] w fun e w' => e = .returned (.bool (memB zs x)) ∧ w = w' := by
  have HS : Hid (Nums w ao n zs) := hs
  clear hs
  obtain ⟨bb, hbb⟩ : ∃ bb, bb = memB zs x := ⟨_, rfl⟩
  rw [← hbb]
  have HB : Hid (bb = memB zs x) := hbb
  clear hbb
  go_enter Try.func25, Try.ntmps25
  go_wp2
  go_loop [5] (fun vi => ∃ k : Nat, vi = .int .i64 k ∧ k ≤ n ∧ ∀ (j : Nat) (a : Int), j < k → zs[j]? = some a → a ≠ x) (fun vi => n - (intOf vi).toNat)
  case atStart => exact ⟨0, rfl, Nat.zero_le _, fun j _ hj => absurd hj (Nat.not_lt_zero _)⟩
  case round =>
    obtain ⟨k, rfl, hk, hno⟩ := hrel
    have HNO : Hid (∀ (j : Nat) (a : Int), j < k → zs[j]? = some a → a ≠ x) := hno
    clear hno
    by_cases hlt : k < n
    · obtain ⟨z, hz⟩ : ∃ z, zs[k]? = some z := ⟨_, List.getElem?_eq_getElem (by rw [HS.out.1]; exact hlt)⟩
      obtain ⟨b, off, rfl, hc⟩ := HS.out.2.2 k z hz
      have HZ : Hid (zs[k]? = some z) := hz
      clear hz
      by_cases hzx : z = x
      · subst hzx
        obtain rfl : bb = true := by rw [HB.out]; unfold memB; exact decide_eq_true (List.mem_of_getElem? HZ.out)
        go_wp2
        go_ret
        exact ⟨rfl, rfl⟩
      · have hd : (z == x) = false := by simpa using hzx
        go_wp2
        go_round
        case rel =>
          refine ⟨k + 1, by go_num, by omega, fun j a hj ha => ?_⟩
          by_cases hjk : j = k
          · subst hjk
            rw [HZ.out] at ha
            obtain rfl := Option.some.inj ha
            exact hzx
          · exact HNO.out j a (by omega) ha
        case measure => simp [intOf]; omega
    · obtain rfl : bb = false := by
        rw [HB.out]; unfold memB
        refine decide_eq_false (fun hm => ?_)
        obtain ⟨j, hj, he⟩ := List.mem_iff_getElem.1 hm
        exact HNO.out j x (by have := HS.out.1; omega) (by rw [List.getElem?_eq_getElem hj, he]) rfl
      go_wp2
      go_ret
      exact ⟨rfl, rfl⟩

end Go.Proofs.Qxb6605814a
