import Derived.Test.Qxb6605804aParts
import Derived.Lib.VarintBits
import Derived.Laws.Closers25b
namespace Go.Proofs.Qxb6605804a
open Go.RowKit

/-- The bytes l lie in block g from offset P on. -/
def Bytes (w : World) (g P : Nat) (l : List UInt8) : Prop := ∀ j b, l[j]? = some b → w.cell? ⟨g, P + j, none⟩ = some (.int .u8 (b.toNat : Int))

theorem Bytes.head {w : World} {g P : Nat} {b : UInt8} {l : List UInt8} (h : Bytes w g P (b :: l)) : w.cell? ⟨g, P, none⟩ = some (.int .u8 (b.toNat : Int)) := h 0 b rfl
theorem Bytes.tail {w : World} {g P : Nat} {b : UInt8} {l : List UInt8} (h : Bytes w g P (b :: l)) : Bytes w g (P + 1) l := fun j x hj => by
  have := h (j + 1) x (by simpa using hj)
  rwa [show P + (j + 1) = P + 1 + j by omega] at this
theorem Bytes.drop {w : World} {g P : Nat} {l r : List UInt8} (h : Bytes w g P (l ++ r)) : Bytes w g (P + l.length) r := fun j x hj => by
  have := h (l.length + j) x (by rw [List.getElem?_append_right (by omega)]; simpa using hj)
  rwa [show P + (l.length + j) = P + l.length + j by omega] at this
theorem Bytes.take {w : World} {g P : Nat} {l r : List UInt8} (h : Bytes w g P (l ++ r)) : Bytes w g P l := fun j x hj =>
  h j x (by rw [List.getElem?_append_left (List.getElem?_eq_some_iff.1 hj).1]; exact hj)

/-- What zzUvarint answers: the number, the place behind it, true. -/
def Read (w : World) (x E : Nat) (e : Ending) (w' : World) : Prop := e = .returned (.tuple #[.int .u64 (x : Int), .int .i64 (E : Int), .bool true]) ∧ w = w'

theorem small_byte {y : Nat} (h : y < 128) : Lib.uvarint y = [y.toUInt8] ∧ (y.toUInt8).toNat = y := ⟨Lib.uvarint_small h, Lib.toUInt8_toNat (by omega)⟩
theorem big_byte {y : Nat} (h : ¬ y < 128) : ∃ b : Nat, Lib.uvarint y = b.toUInt8 :: Lib.uvarint (y / 128) ∧ (b.toUInt8).toNat = b ∧ b < 256 ∧ 128 ≤ b ∧ b = y % 128 + 128 :=
  ⟨y % 128 + 128, Lib.uvarint_big (by omega), Lib.toUInt8_toNat (by omega), by omega, by omega, rfl⟩

theorem ret_three {k k' : IntKind} {a b c d : Int} (h : a = b) (h' : c = d) : Ending.returned (.tuple #[.int k a, .int k' c, .bool true]) = .returned (.tuple #[.int k b, .int k' d, .bool true]) := by rw [h, h']

set_option maxHeartbeats 32000000 in
set_option maxRecDepth 100000 in
theorem uvarint_any (g n c P0 x E : Nat) (w : World) (hx : x < 18446744073709551616) (hE : P0 + (Lib.uvarint x).length = E) (hEn : E ≤ n) (hn : n ≤ 140737488355328) (hB : Bytes w g P0 (Lib.uvarint x)) :
    Calls Try.prog 33 #[.slice (some ⟨g, 0, none⟩) n c, .int .i64 P0] w (Read w x E) := by
  have HE : Hid (P0 + (Lib.uvarint x).length = E) := hE
  have HB : Hid (Bytes w g P0 (Lib.uvarint x)) := hB
  clear hE hB
  go_enter Try.func33, Try.ntmps33
  go_wp2
  go_loop [1, 7, 8, 9] (fun vp vx vs vk => ∃ k acc y P : Nat, vp = .int .i64 P ∧ vx = .int .u64 acc ∧ vs = .int .u64 ((7 * k : Nat) : Int) ∧ vk = .int .i64 k ∧ k ≤ 9 ∧ acc < 2 ^ (7 * k) ∧ x = acc + y * 2 ^ (7 * k) ∧ P + (Lib.uvarint y).length = E ∧ Bytes w g P (Lib.uvarint y))
    (fun _ _ _ vk => 10 - (intOf vk).toNat)
  case atStart => exact ⟨0, 0, x, P0, rfl, rfl, rfl, rfl, by omega, by decide, by simp, HE.out, HB.out⟩
  case round =>
    clear HE HB
    obtain ⟨k, acc, y, P, rfl, rfl, rfl, rfl, hk, hacc, hxy, hPE, hBy⟩ := hrel
    have hl := Lib.uvarint_pos y
    have hPn : P < n := by omega
    have hPn' : (P : Int) < (n : Int) := by omega
    have hks : k = 0 ∨ k = 1 ∨ k = 2 ∨ k = 3 ∨ k = 4 ∨ k = 5 ∨ k = 6 ∨ k = 7 ∨ k = 8 ∨ k = 9 := by omega
    rcases hks with rfl | rfl | rfl | rfl | rfl | rfl | rfl | rfl | rfl | rfl
    · have hacc' : acc < 1 := by simpa using hacc
      have hxy' : x = acc + y * 1 := by simpa using hxy
      have HXY : Hid (x = acc + y * 1) := hxy'
      clear hacc hxy hxy' hk
      obtain rfl : acc = 0 := by omega
      have HP : Hid (P + (Lib.uvarint y).length = E) := hPE
      clear hPE hl
      by_cases hy : y < 128
      · obtain ⟨e1, e2⟩ := small_byte hy
        rw [e1] at hBy
        have hc := hBy.head
        rw [e2] at hc
        have HR : Hid (P + 1 = E) := by have h := HP.out; rw [e1] at h; exact h
        clear e1 e2 hBy HP
        have hor : bits .or .u64 0 (y : Int) = (y : Int) := by
          rw [u64_orv0 _ _ (by omega) (by omega) (by omega) (by omega) (by omega)]
          omega
        have HO : Hid ((y : Int) = (x : Int)) := by have h := HXY.out; show (y : Int) = x; omega
        clear HXY
        go_wp2
        go_ret3
        exact ⟨ret_three (by have h := HO.out; omega) (by have h := HR.out; omega), rfl⟩
      · obtain ⟨b, e1, e2, hb, hb8, hbq⟩ := big_byte hy
        rw [e1] at hBy
        have hc := hBy.head
        rw [e2] at hc
        have HT : Hid (Bytes w g (P + 1) (Lib.uvarint (y / 128))) := hBy.tail
        have HR : Hid (P + 1 + (Lib.uvarint (y / 128)).length = E) := by have h := HP.out; rw [e1] at h; simp only [List.length_cons] at h; show P + 1 + (Lib.uvarint (y / 128)).length = E; omega
        have HQ : Hid (b = y % 128 + 128) := hbq
        clear e1 e2 hBy HP hbq
        have hv : bits .or .u64 0 (IntKind.u64.wrap (IntKind.u64.wrap (bits .and .u8 (b : Int) 127))) = ((b % 128 : Nat) : Int) := by
          simp (disch := omega) only [u8_and127, u64_wrap_id, u64_orv0]
          omega
        go_wp2
        go_round
        case rel => exact ⟨1, b % 128, y / 128, P + 1, by go_num, by first | rfl | (congr 1; omega), rfl, rfl, by omega, by show b % 128 < 128; omega, by show x = b % 128 + y / 128 * 128; have h := HXY.out; have h2 := HQ.out; omega, HR.out, HT.out⟩
        case measure => simp [intOf]
    · have hacc' : acc < 128 := by simpa using hacc
      have hxy' : x = acc + y * 128 := by simpa using hxy
      have HXY : Hid (x = acc + y * 128) := hxy'
      clear hacc hxy hxy' hk
      have HP : Hid (P + (Lib.uvarint y).length = E) := hPE
      clear hPE hl
      by_cases hy : y < 128
      · obtain ⟨e1, e2⟩ := small_byte hy
        rw [e1] at hBy
        have hc := hBy.head
        rw [e2] at hc
        have HR : Hid (P + 1 = E) := by have h := HP.out; rw [e1] at h; exact h
        clear e1 e2 hBy HP
        have hor : bits .or .u64 (acc : Int) ((y : Int) * 128) = ((acc + y * 128 : Nat) : Int) := by
          rw [u64_orv7 _ _ (by omega) (by omega) (by omega) (by omega) (by omega)]
          omega
        have HO : Hid (((acc + y * 128 : Nat) : Int) = (x : Int)) := by have h := HXY.out; show ((acc + y * 128 : Nat) : Int) = x; omega
        clear HXY
        go_wp2
        go_ret3
        exact ⟨ret_three (by have h := HO.out; omega) (by have h := HR.out; omega), rfl⟩
      · obtain ⟨b, e1, e2, hb, hb8, hbq⟩ := big_byte hy
        rw [e1] at hBy
        have hc := hBy.head
        rw [e2] at hc
        have HT : Hid (Bytes w g (P + 1) (Lib.uvarint (y / 128))) := hBy.tail
        have HR : Hid (P + 1 + (Lib.uvarint (y / 128)).length = E) := by have h := HP.out; rw [e1] at h; simp only [List.length_cons] at h; show P + 1 + (Lib.uvarint (y / 128)).length = E; omega
        have HQ : Hid (b = y % 128 + 128) := hbq
        clear e1 e2 hBy HP hbq
        have hv : bits .or .u64 (acc : Int) (IntKind.u64.wrap ((IntKind.u64.wrap (bits .and .u8 (b : Int) 127) * 128))) = ((acc + b % 128 * 128 : Nat) : Int) := by
          simp (disch := omega) only [u8_and127, u64_wrap_id, u64_orv7]
          omega
        go_wp2
        go_round
        case rel => exact ⟨2, acc + b % 128 * 128, y / 128, P + 1, by go_num, by first | rfl | (congr 1; omega), rfl, rfl, by omega, by show acc + b % 128 * 128 < 16384; omega, by show x = acc + b % 128 * 128 + y / 128 * 16384; have h := HXY.out; have h2 := HQ.out; omega, HR.out, HT.out⟩
        case measure => simp [intOf]
    · have hacc' : acc < 16384 := by simpa using hacc
      have hxy' : x = acc + y * 16384 := by simpa using hxy
      have HXY : Hid (x = acc + y * 16384) := hxy'
      clear hacc hxy hxy' hk
      have HP : Hid (P + (Lib.uvarint y).length = E) := hPE
      clear hPE hl
      by_cases hy : y < 128
      · obtain ⟨e1, e2⟩ := small_byte hy
        rw [e1] at hBy
        have hc := hBy.head
        rw [e2] at hc
        have HR : Hid (P + 1 = E) := by have h := HP.out; rw [e1] at h; exact h
        clear e1 e2 hBy HP
        have hor : bits .or .u64 (acc : Int) ((y : Int) * 16384) = ((acc + y * 16384 : Nat) : Int) := by
          rw [u64_orv14 _ _ (by omega) (by omega) (by omega) (by omega) (by omega)]
          omega
        have HO : Hid (((acc + y * 16384 : Nat) : Int) = (x : Int)) := by have h := HXY.out; show ((acc + y * 16384 : Nat) : Int) = x; omega
        clear HXY
        go_wp2
        go_ret3
        exact ⟨ret_three (by have h := HO.out; omega) (by have h := HR.out; omega), rfl⟩
      · obtain ⟨b, e1, e2, hb, hb8, hbq⟩ := big_byte hy
        rw [e1] at hBy
        have hc := hBy.head
        rw [e2] at hc
        have HT : Hid (Bytes w g (P + 1) (Lib.uvarint (y / 128))) := hBy.tail
        have HR : Hid (P + 1 + (Lib.uvarint (y / 128)).length = E) := by have h := HP.out; rw [e1] at h; simp only [List.length_cons] at h; show P + 1 + (Lib.uvarint (y / 128)).length = E; omega
        have HQ : Hid (b = y % 128 + 128) := hbq
        clear e1 e2 hBy HP hbq
        have hv : bits .or .u64 (acc : Int) (IntKind.u64.wrap ((IntKind.u64.wrap (bits .and .u8 (b : Int) 127) * 16384))) = ((acc + b % 128 * 16384 : Nat) : Int) := by
          simp (disch := omega) only [u8_and127, u64_wrap_id, u64_orv14]
          omega
        go_wp2
        go_round
        case rel => exact ⟨3, acc + b % 128 * 16384, y / 128, P + 1, by go_num, by first | rfl | (congr 1; omega), rfl, rfl, by omega, by show acc + b % 128 * 16384 < 2097152; omega, by show x = acc + b % 128 * 16384 + y / 128 * 2097152; have h := HXY.out; have h2 := HQ.out; omega, HR.out, HT.out⟩
        case measure => simp [intOf]
    · have hacc' : acc < 2097152 := by simpa using hacc
      have hxy' : x = acc + y * 2097152 := by simpa using hxy
      have HXY : Hid (x = acc + y * 2097152) := hxy'
      clear hacc hxy hxy' hk
      have HP : Hid (P + (Lib.uvarint y).length = E) := hPE
      clear hPE hl
      by_cases hy : y < 128
      · obtain ⟨e1, e2⟩ := small_byte hy
        rw [e1] at hBy
        have hc := hBy.head
        rw [e2] at hc
        have HR : Hid (P + 1 = E) := by have h := HP.out; rw [e1] at h; exact h
        clear e1 e2 hBy HP
        have hor : bits .or .u64 (acc : Int) ((y : Int) * 2097152) = ((acc + y * 2097152 : Nat) : Int) := by
          rw [u64_orv21 _ _ (by omega) (by omega) (by omega) (by omega) (by omega)]
          omega
        have HO : Hid (((acc + y * 2097152 : Nat) : Int) = (x : Int)) := by have h := HXY.out; show ((acc + y * 2097152 : Nat) : Int) = x; omega
        clear HXY
        go_wp2
        go_ret3
        exact ⟨ret_three (by have h := HO.out; omega) (by have h := HR.out; omega), rfl⟩
      · obtain ⟨b, e1, e2, hb, hb8, hbq⟩ := big_byte hy
        rw [e1] at hBy
        have hc := hBy.head
        rw [e2] at hc
        have HT : Hid (Bytes w g (P + 1) (Lib.uvarint (y / 128))) := hBy.tail
        have HR : Hid (P + 1 + (Lib.uvarint (y / 128)).length = E) := by have h := HP.out; rw [e1] at h; simp only [List.length_cons] at h; show P + 1 + (Lib.uvarint (y / 128)).length = E; omega
        have HQ : Hid (b = y % 128 + 128) := hbq
        clear e1 e2 hBy HP hbq
        have hv : bits .or .u64 (acc : Int) (IntKind.u64.wrap ((IntKind.u64.wrap (bits .and .u8 (b : Int) 127) * 2097152))) = ((acc + b % 128 * 2097152 : Nat) : Int) := by
          simp (disch := omega) only [u8_and127, u64_wrap_id, u64_orv21]
          omega
        go_wp2
        go_round
        case rel => exact ⟨4, acc + b % 128 * 2097152, y / 128, P + 1, by go_num, by first | rfl | (congr 1; omega), rfl, rfl, by omega, by show acc + b % 128 * 2097152 < 268435456; omega, by show x = acc + b % 128 * 2097152 + y / 128 * 268435456; have h := HXY.out; have h2 := HQ.out; omega, HR.out, HT.out⟩
        case measure => simp [intOf]
    · have hacc' : acc < 268435456 := by simpa using hacc
      have hxy' : x = acc + y * 268435456 := by simpa using hxy
      have HXY : Hid (x = acc + y * 268435456) := hxy'
      clear hacc hxy hxy' hk
      have HP : Hid (P + (Lib.uvarint y).length = E) := hPE
      clear hPE hl
      by_cases hy : y < 128
      · obtain ⟨e1, e2⟩ := small_byte hy
        rw [e1] at hBy
        have hc := hBy.head
        rw [e2] at hc
        have HR : Hid (P + 1 = E) := by have h := HP.out; rw [e1] at h; exact h
        clear e1 e2 hBy HP
        have hor : bits .or .u64 (acc : Int) ((y : Int) * 268435456) = ((acc + y * 268435456 : Nat) : Int) := by
          rw [u64_orv28 _ _ (by omega) (by omega) (by omega) (by omega) (by omega)]
          omega
        have HO : Hid (((acc + y * 268435456 : Nat) : Int) = (x : Int)) := by have h := HXY.out; show ((acc + y * 268435456 : Nat) : Int) = x; omega
        clear HXY
        go_wp2
        go_ret3
        exact ⟨ret_three (by have h := HO.out; omega) (by have h := HR.out; omega), rfl⟩
      · obtain ⟨b, e1, e2, hb, hb8, hbq⟩ := big_byte hy
        rw [e1] at hBy
        have hc := hBy.head
        rw [e2] at hc
        have HT : Hid (Bytes w g (P + 1) (Lib.uvarint (y / 128))) := hBy.tail
        have HR : Hid (P + 1 + (Lib.uvarint (y / 128)).length = E) := by have h := HP.out; rw [e1] at h; simp only [List.length_cons] at h; show P + 1 + (Lib.uvarint (y / 128)).length = E; omega
        have HQ : Hid (b = y % 128 + 128) := hbq
        clear e1 e2 hBy HP hbq
        have hv : bits .or .u64 (acc : Int) (IntKind.u64.wrap ((IntKind.u64.wrap (bits .and .u8 (b : Int) 127) * 268435456))) = ((acc + b % 128 * 268435456 : Nat) : Int) := by
          simp (disch := omega) only [u8_and127, u64_wrap_id, u64_orv28]
          omega
        go_wp2
        go_round
        case rel => exact ⟨5, acc + b % 128 * 268435456, y / 128, P + 1, by go_num, by first | rfl | (congr 1; omega), rfl, rfl, by omega, by show acc + b % 128 * 268435456 < 34359738368; omega, by show x = acc + b % 128 * 268435456 + y / 128 * 34359738368; have h := HXY.out; have h2 := HQ.out; omega, HR.out, HT.out⟩
        case measure => simp [intOf]
    · have hacc' : acc < 34359738368 := by simpa using hacc
      have hxy' : x = acc + y * 34359738368 := by simpa using hxy
      have HXY : Hid (x = acc + y * 34359738368) := hxy'
      clear hacc hxy hxy' hk
      have HP : Hid (P + (Lib.uvarint y).length = E) := hPE
      clear hPE hl
      by_cases hy : y < 128
      · obtain ⟨e1, e2⟩ := small_byte hy
        rw [e1] at hBy
        have hc := hBy.head
        rw [e2] at hc
        have HR : Hid (P + 1 = E) := by have h := HP.out; rw [e1] at h; exact h
        clear e1 e2 hBy HP
        have hor : bits .or .u64 (acc : Int) ((y : Int) * 34359738368) = ((acc + y * 34359738368 : Nat) : Int) := by
          rw [u64_orv35 _ _ (by omega) (by omega) (by omega) (by omega) (by omega)]
          omega
        have HO : Hid (((acc + y * 34359738368 : Nat) : Int) = (x : Int)) := by have h := HXY.out; show ((acc + y * 34359738368 : Nat) : Int) = x; omega
        clear HXY
        go_wp2
        go_ret3
        exact ⟨ret_three (by have h := HO.out; omega) (by have h := HR.out; omega), rfl⟩
      · obtain ⟨b, e1, e2, hb, hb8, hbq⟩ := big_byte hy
        rw [e1] at hBy
        have hc := hBy.head
        rw [e2] at hc
        have HT : Hid (Bytes w g (P + 1) (Lib.uvarint (y / 128))) := hBy.tail
        have HR : Hid (P + 1 + (Lib.uvarint (y / 128)).length = E) := by have h := HP.out; rw [e1] at h; simp only [List.length_cons] at h; show P + 1 + (Lib.uvarint (y / 128)).length = E; omega
        have HQ : Hid (b = y % 128 + 128) := hbq
        clear e1 e2 hBy HP hbq
        have hv : bits .or .u64 (acc : Int) (IntKind.u64.wrap ((IntKind.u64.wrap (bits .and .u8 (b : Int) 127) * 34359738368))) = ((acc + b % 128 * 34359738368 : Nat) : Int) := by
          simp (disch := omega) only [u8_and127, u64_wrap_id, u64_orv35]
          omega
        go_wp2
        go_round
        case rel => exact ⟨6, acc + b % 128 * 34359738368, y / 128, P + 1, by go_num, by first | rfl | (congr 1; omega), rfl, rfl, by omega, by show acc + b % 128 * 34359738368 < 4398046511104; omega, by show x = acc + b % 128 * 34359738368 + y / 128 * 4398046511104; have h := HXY.out; have h2 := HQ.out; omega, HR.out, HT.out⟩
        case measure => simp [intOf]
    · have hacc' : acc < 4398046511104 := by simpa using hacc
      have hxy' : x = acc + y * 4398046511104 := by simpa using hxy
      have HXY : Hid (x = acc + y * 4398046511104) := hxy'
      clear hacc hxy hxy' hk
      have HP : Hid (P + (Lib.uvarint y).length = E) := hPE
      clear hPE hl
      by_cases hy : y < 128
      · obtain ⟨e1, e2⟩ := small_byte hy
        rw [e1] at hBy
        have hc := hBy.head
        rw [e2] at hc
        have HR : Hid (P + 1 = E) := by have h := HP.out; rw [e1] at h; exact h
        clear e1 e2 hBy HP
        have hor : bits .or .u64 (acc : Int) ((y : Int) * 4398046511104) = ((acc + y * 4398046511104 : Nat) : Int) := by
          rw [u64_orv42 _ _ (by omega) (by omega) (by omega) (by omega) (by omega)]
          omega
        have HO : Hid (((acc + y * 4398046511104 : Nat) : Int) = (x : Int)) := by have h := HXY.out; show ((acc + y * 4398046511104 : Nat) : Int) = x; omega
        clear HXY
        go_wp2
        go_ret3
        exact ⟨ret_three (by have h := HO.out; omega) (by have h := HR.out; omega), rfl⟩
      · obtain ⟨b, e1, e2, hb, hb8, hbq⟩ := big_byte hy
        rw [e1] at hBy
        have hc := hBy.head
        rw [e2] at hc
        have HT : Hid (Bytes w g (P + 1) (Lib.uvarint (y / 128))) := hBy.tail
        have HR : Hid (P + 1 + (Lib.uvarint (y / 128)).length = E) := by have h := HP.out; rw [e1] at h; simp only [List.length_cons] at h; show P + 1 + (Lib.uvarint (y / 128)).length = E; omega
        have HQ : Hid (b = y % 128 + 128) := hbq
        clear e1 e2 hBy HP hbq
        have hv : bits .or .u64 (acc : Int) (IntKind.u64.wrap ((IntKind.u64.wrap (bits .and .u8 (b : Int) 127) * 4398046511104))) = ((acc + b % 128 * 4398046511104 : Nat) : Int) := by
          simp (disch := omega) only [u8_and127, u64_wrap_id, u64_orv42]
          omega
        go_wp2
        go_round
        case rel => exact ⟨7, acc + b % 128 * 4398046511104, y / 128, P + 1, by go_num, by first | rfl | (congr 1; omega), rfl, rfl, by omega, by show acc + b % 128 * 4398046511104 < 562949953421312; omega, by show x = acc + b % 128 * 4398046511104 + y / 128 * 562949953421312; have h := HXY.out; have h2 := HQ.out; omega, HR.out, HT.out⟩
        case measure => simp [intOf]
    · have hacc' : acc < 562949953421312 := by simpa using hacc
      have hxy' : x = acc + y * 562949953421312 := by simpa using hxy
      have HXY : Hid (x = acc + y * 562949953421312) := hxy'
      clear hacc hxy hxy' hk
      have HP : Hid (P + (Lib.uvarint y).length = E) := hPE
      clear hPE hl
      by_cases hy : y < 128
      · obtain ⟨e1, e2⟩ := small_byte hy
        rw [e1] at hBy
        have hc := hBy.head
        rw [e2] at hc
        have HR : Hid (P + 1 = E) := by have h := HP.out; rw [e1] at h; exact h
        clear e1 e2 hBy HP
        have hor : bits .or .u64 (acc : Int) ((y : Int) * 562949953421312) = ((acc + y * 562949953421312 : Nat) : Int) := by
          rw [u64_orv49 _ _ (by omega) (by omega) (by omega) (by omega) (by omega)]
          omega
        have HO : Hid (((acc + y * 562949953421312 : Nat) : Int) = (x : Int)) := by have h := HXY.out; show ((acc + y * 562949953421312 : Nat) : Int) = x; omega
        clear HXY
        go_wp2
        go_ret3
        exact ⟨ret_three (by have h := HO.out; omega) (by have h := HR.out; omega), rfl⟩
      · obtain ⟨b, e1, e2, hb, hb8, hbq⟩ := big_byte hy
        rw [e1] at hBy
        have hc := hBy.head
        rw [e2] at hc
        have HT : Hid (Bytes w g (P + 1) (Lib.uvarint (y / 128))) := hBy.tail
        have HR : Hid (P + 1 + (Lib.uvarint (y / 128)).length = E) := by have h := HP.out; rw [e1] at h; simp only [List.length_cons] at h; show P + 1 + (Lib.uvarint (y / 128)).length = E; omega
        have HQ : Hid (b = y % 128 + 128) := hbq
        clear e1 e2 hBy HP hbq
        have hv : bits .or .u64 (acc : Int) (IntKind.u64.wrap ((IntKind.u64.wrap (bits .and .u8 (b : Int) 127) * 562949953421312))) = ((acc + b % 128 * 562949953421312 : Nat) : Int) := by
          simp (disch := omega) only [u8_and127, u64_wrap_id, u64_orv49]
          omega
        go_wp2
        go_round
        case rel => exact ⟨8, acc + b % 128 * 562949953421312, y / 128, P + 1, by go_num, by first | rfl | (congr 1; omega), rfl, rfl, by omega, by show acc + b % 128 * 562949953421312 < 72057594037927936; omega, by show x = acc + b % 128 * 562949953421312 + y / 128 * 72057594037927936; have h := HXY.out; have h2 := HQ.out; omega, HR.out, HT.out⟩
        case measure => simp [intOf]
    · have hacc' : acc < 72057594037927936 := by simpa using hacc
      have hxy' : x = acc + y * 72057594037927936 := by simpa using hxy
      have HXY : Hid (x = acc + y * 72057594037927936) := hxy'
      clear hacc hxy hxy' hk
      have HP : Hid (P + (Lib.uvarint y).length = E) := hPE
      clear hPE hl
      by_cases hy : y < 128
      · obtain ⟨e1, e2⟩ := small_byte hy
        rw [e1] at hBy
        have hc := hBy.head
        rw [e2] at hc
        have HR : Hid (P + 1 = E) := by have h := HP.out; rw [e1] at h; exact h
        clear e1 e2 hBy HP
        have hor : bits .or .u64 (acc : Int) ((y : Int) * 72057594037927936) = ((acc + y * 72057594037927936 : Nat) : Int) := by
          rw [u64_orv56 _ _ (by omega) (by omega) (by omega) (by omega) (by omega)]
          omega
        have HO : Hid (((acc + y * 72057594037927936 : Nat) : Int) = (x : Int)) := by have h := HXY.out; show ((acc + y * 72057594037927936 : Nat) : Int) = x; omega
        clear HXY
        go_wp2
        go_ret3
        exact ⟨ret_three (by have h := HO.out; omega) (by have h := HR.out; omega), rfl⟩
      · obtain ⟨b, e1, e2, hb, hb8, hbq⟩ := big_byte hy
        rw [e1] at hBy
        have hc := hBy.head
        rw [e2] at hc
        have HT : Hid (Bytes w g (P + 1) (Lib.uvarint (y / 128))) := hBy.tail
        have HR : Hid (P + 1 + (Lib.uvarint (y / 128)).length = E) := by have h := HP.out; rw [e1] at h; simp only [List.length_cons] at h; show P + 1 + (Lib.uvarint (y / 128)).length = E; omega
        have HQ : Hid (b = y % 128 + 128) := hbq
        clear e1 e2 hBy HP hbq
        have hv : bits .or .u64 (acc : Int) (IntKind.u64.wrap ((IntKind.u64.wrap (bits .and .u8 (b : Int) 127) * 72057594037927936))) = ((acc + b % 128 * 72057594037927936 : Nat) : Int) := by
          simp (disch := omega) only [u8_and127, u64_wrap_id, u64_orv56]
          omega
        go_wp2
        go_round
        case rel => exact ⟨9, acc + b % 128 * 72057594037927936, y / 128, P + 1, by go_num, by first | rfl | (congr 1; omega), rfl, rfl, by omega, by show acc + b % 128 * 72057594037927936 < 9223372036854775808; omega, by show x = acc + b % 128 * 72057594037927936 + y / 128 * 9223372036854775808; have h := HXY.out; have h2 := HQ.out; omega, HR.out, HT.out⟩
        case measure => simp [intOf]
    · have hacc' : acc < 9223372036854775808 := by simpa using hacc
      have hxy' : x = acc + y * 9223372036854775808 := by simpa using hxy
      have HXY : Hid (x = acc + y * 9223372036854775808) := hxy'
      clear hacc hxy hxy' hk
      have HP : Hid (P + (Lib.uvarint y).length = E) := hPE
      clear hPE hl
      by_cases hy : y < 128
      · obtain ⟨e1, e2⟩ := small_byte hy
        rw [e1] at hBy
        have hc := hBy.head
        rw [e2] at hc
        have HR : Hid (P + 1 = E) := by have h := HP.out; rw [e1] at h; exact h
        clear e1 e2 hBy HP
        have hy1 : y ≤ 1 := by have h := HXY.out; omega
        have hy1' : (y : Int) ≤ 1 := by omega
        have hor : bits .or .u64 (acc : Int) ((y : Int) * 9223372036854775808) = ((acc + y * 9223372036854775808 : Nat) : Int) := by
          rw [u64_orv63 _ _ (by omega) (by omega) (by omega) (by omega) (by omega)]
          omega
        have HO : Hid (((acc + y * 9223372036854775808 : Nat) : Int) = (x : Int)) := by have h := HXY.out; show ((acc + y * 9223372036854775808 : Nat) : Int) = x; omega
        clear HXY
        go_wp2
        go_ret3
        exact ⟨ret_three (by have h := HO.out; omega) (by have h := HR.out; omega), rfl⟩
      · have h := HXY.out
        omega

end Go.Proofs.Qxb6605804a
