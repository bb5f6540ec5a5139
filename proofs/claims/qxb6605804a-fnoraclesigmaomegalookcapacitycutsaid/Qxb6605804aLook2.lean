import Derived.Test.Qxb6605804aLook
namespace Go.Proofs.Qxb6605804a
open Go.RowKit

/-- The boolean that look shows. -/
def lookB (anarchy fault leader i step : Int) (mn : Bool) (omega : Int) : Bool :=
  if anarB anarchy fault step = true ∧ mn = false ∧ omega = 1 then true else if anarB anarchy fault step = true ∧ mn = false ∧ omega = 2 then false else leadB fault leader i

/-- What look leaves. -/
def Looked (w : World) (b : Bool) (gr L : Nat) (e : Ending) (w' : World) : Prop :=
  e = .returned (.agg #[.bool b, .slice (some ⟨gr, 0, none⟩) L L]) ∧ Below w.heap.size w w'

set_option maxHeartbeats 800000 in
set_option maxRecDepth 100000 in
theorem look_any (G gh n ch gr L i : Nat) (anarchy fault leader step omega : Int) (mn : Bool) (m : Option Addr) (w : World) (hO : OracleAt w G anarchy fault leader (.slice (some ⟨gh, 0, none⟩) n ch)) (hM : MoveAt w mn omega m)
    (hi : i < n) (hc : w.cell? ⟨gh, i, none⟩ = some (.slice (some ⟨gr, 0, none⟩) L (L + 1))) (hL : L ≤ 65536) (hs : 1 ≤ step) (hG : G < w.heap.size) (hgh : gh < w.heap.size) :
    Calls Try.prog 37 #[.pointer (some ⟨G, 0, none⟩), .int .i64 i, .int .i64 step, .pointer m] w (Looked w (lookB anarchy fault leader i step mn omega) gr L) := by
  have hi0 : (0 : Int) ≤ (i : Int) := Int.natCast_nonneg _
  have hi1 : (i : Int) < (n : Int) := by omega
  have hle := fun W h => leads_any G anarchy fault leader (.slice (some ⟨gh, 0, none⟩) n ch) i W h
  have han := fun W h => anarchic_any G anarchy fault leader (.slice (some ⟨gh, 0, none⟩) n ch) step W h hs
  obtain ⟨lb, hlb⟩ : ∃ lb, lb = leadB fault leader i := ⟨_, rfl⟩
  obtain ⟨ab, hab⟩ : ∃ ab, ab = anarB anarchy fault step := ⟨_, rfl⟩
  rw [← hlb] at hle
  rw [← hab] at han
  have HO : ∀ o, OracleAt (w.alloc o) G anarchy fault leader (.slice (some ⟨gh, 0, none⟩) n ch) := fun o => hO.below ((Below.refl _ _).alloc (Nat.le_refl _) o) hG
  have HB : Hid (lookB anarchy fault leader i step mn omega = if ab = true ∧ mn = false ∧ omega = 1 then true else if ab = true ∧ mn = false ∧ omega = 2 then false else lb) := by
    show _ = _
    rw [hab, hlb]; rfl
  obtain ⟨bb, hbb⟩ : ∃ bb, bb = lookB anarchy fault leader i step mn omega := ⟨_, rfl⟩
  rw [← hbb] at HB ⊢
  have HL := hle _ (HO (.cells #[.bool false, .slice none 0 0] 37))
  have HA := han _ (HO (.cells #[.bool false, .slice none 0 0] 37))
  clear hle han hlb hab hbb hs
  obtain ⟨c1, c2, c3, c4, c6⟩ := hO
  clear HO
  cases ab with
  | false =>
    obtain rfl : bb = lb := by have h := HB.out; simpa using h
    clear HB hM
    go_enter Try.func37, Try.ntmps37
    go_wp2_with (first | (go_at_call 39; refine HL.mono ?_; rintro e w' ⟨rfl, rfl⟩) | (go_at_call 40; refine HA.mono ?_; rintro e w' ⟨rfl, rfl⟩))
    exact bodyPost_ret (v := .agg #[.bool bb, .slice (some ⟨gr, 0, none⟩) L L]) (by simp [results, Try.results37, go_sem]) rfl ⟨rfl, (Below.refl _ _).alloc (Nat.le_refl _) _⟩
  | true =>
    rcases hM with ⟨rfl, rfl⟩ | ⟨rfl, M, rfl, cM, lM⟩
    · obtain rfl : bb = lb := by have h := HB.out; simpa using h
      clear HB
      go_enter Try.func37, Try.ntmps37
      go_wp2_with (first | (go_at_call 39; refine HL.mono ?_; rintro e w' ⟨rfl, rfl⟩) | (go_at_call 40; refine HA.mono ?_; rintro e w' ⟨rfl, rfl⟩))
      exact bodyPost_ret (v := .agg #[.bool bb, .slice (some ⟨gr, 0, none⟩) L L]) (by simp [results, Try.results37, go_sem]) rfl ⟨rfl, (Below.refl _ _).alloc (Nat.le_refl _) _⟩
    · by_cases h1 : omega = 1
      · subst h1
        obtain rfl : bb = true := by have h := HB.out; simpa using h
        clear HB
        go_enter Try.func37, Try.ntmps37
        go_wp2_with (first | (go_at_call 39; refine HL.mono ?_; rintro e w' ⟨rfl, rfl⟩) | (go_at_call 40; refine HA.mono ?_; rintro e w' ⟨rfl, rfl⟩))
        exact bodyPost_ret (v := .agg #[.bool true, .slice (some ⟨gr, 0, none⟩) L L]) (by simp [results, Try.results37, go_sem]) rfl ⟨rfl, (Below.refl _ _).alloc (Nat.le_refl _) _⟩
      · have hd1 : (omega == 1) = false := by simpa using h1
        by_cases h2 : omega = 2
        · subst h2
          obtain rfl : bb = false := by have h := HB.out; simpa using h
          clear HB
          go_enter Try.func37, Try.ntmps37
          go_wp2_with (first | (go_at_call 39; refine HL.mono ?_; rintro e w' ⟨rfl, rfl⟩) | (go_at_call 40; refine HA.mono ?_; rintro e w' ⟨rfl, rfl⟩))
          exact bodyPost_ret (v := .agg #[.bool false, .slice (some ⟨gr, 0, none⟩) L L]) (by simp [results, Try.results37, go_sem]) rfl ⟨rfl, (Below.refl _ _).alloc (Nat.le_refl _) _⟩
        · have hd2 : (omega == 2) = false := by simpa using h2
          obtain rfl : bb = lb := by have h := HB.out; simpa [h1, h2] using h
          clear HB
          go_enter Try.func37, Try.ntmps37
          go_wp2_with (first | (go_at_call 39; refine HL.mono ?_; rintro e w' ⟨rfl, rfl⟩) | (go_at_call 40; refine HA.mono ?_; rintro e w' ⟨rfl, rfl⟩))
          exact bodyPost_ret (v := .agg #[.bool bb, .slice (some ⟨gr, 0, none⟩) L L]) (by simp [results, Try.results37, go_sem]) rfl ⟨rfl, (Below.refl _ _).alloc (Nat.le_refl _) _⟩

set_option maxHeartbeats 800000 in
theorem zlook_any (G gh n ch gr L i : Nat) (anarchy fault leader step omega : Int) (mn : Bool) (m : Option Addr) (w : World) (hO : OracleAt w G anarchy fault leader (.slice (some ⟨gh, 0, none⟩) n ch)) (hM : MoveAt w mn omega m)
    (hi : i < n) (hc : w.cell? ⟨gh, i, none⟩ = some (.slice (some ⟨gr, 0, none⟩) L (L + 1))) (hL : L ≤ 65536) (hs : 1 ≤ step) (hG : G < w.heap.size) (hgh : gh < w.heap.size) :
    Calls Try.prog 15 #[.pointer (some ⟨G, 0, none⟩), .int .i64 i, .int .i64 step, .pointer m] w (Looked w (lookB anarchy fault leader i step mn omega) gr L) := by
  have hA : Below w.heap.size w (w.alloc (.cells #[.bool false, .slice none 0 0] 37)) := (Below.refl _ _).alloc (Nat.le_refl _) _
  have hk := look_any G gh n ch gr L i anarchy fault leader step omega mn m (w.alloc (.cells #[.bool false, .slice none 0 0] 37)) (hO.below hA hG) (hM.below hA) hi ((hA.cell (p := ⟨gh, i, none⟩) hgh).trans hc) hL hs (by simp; omega) (by simp; omega)
  obtain ⟨bb, hbb⟩ : ∃ bb, bb = lookB anarchy fault leader i step mn omega := ⟨_, rfl⟩
  rw [← hbb] at hk ⊢
  clear hbb hO hM hc
  go_enter Try.func15, Try.ntmps15
  go_wp2_with (go_at_call 37; refine hk.mono ?_; rintro e w1 ⟨rfl, hb1⟩; have k0 := (hb1.cell (p := ⟨w.heap.size, 0, none⟩) (by simp)).trans (World.cell?_alloc_new _ _ _ _); have k1 := (hb1.cell (p := ⟨w.heap.size, 1, none⟩) (by simp)).trans (World.cell?_alloc_new _ _ _ _); have f0 := hb1.frozen (p := ⟨w.heap.size, 0, none⟩) (by simp); have f1 := hb1.frozen (p := ⟨w.heap.size, 1, none⟩) (by simp))
  have hb2 : Below w.heap.size w w1 := hA.trans (hb1.mono (by simp))
  exact bodyPost_ret (v := .agg #[.bool bb, .slice (some ⟨gr, 0, none⟩) L L]) (by simp [results, Try.results15, go_sem, k0, k1]) rfl ⟨rfl, (hb2.setCell (Nat.le_refl _) _).setCell (Nat.le_refl _) _⟩

set_option maxHeartbeats 800000 in
set_option maxRecDepth 100000 in
theorem quorumsMatch_any (g L c1 c2 : Nat) (ao : Option Addr) (w : World) (hL : L ≤ 65536)
    (heq : ∀ j, j < L → ∃ (g2 : Nat) (x y : Int), ao = some ⟨g2, 0, none⟩ ∧ w.cell? ⟨g, j * 2, none⟩ = some (.int .i64 x) ∧ w.cell? ⟨g, j * 2 + 1, none⟩ = some (.int .i64 y) ∧ w.cell? ⟨g2, j * 2, none⟩ = some (.int .i64 x) ∧ w.cell? ⟨g2, j * 2 + 1, none⟩ = some (.int .i64 y)) :
    Calls Try.prog 17 #[.slice (some ⟨g, 0, none⟩) L c1, .slice ao L c2] w fun e w' => e = .returned (.bool true) ∧ ∃ m, w' = w.drewN m := by
  have HEQ : Hid (∀ j, j < L → ∃ (g2 : Nat) (x y : Int), ao = some ⟨g2, 0, none⟩ ∧ w.cell? ⟨g, j * 2, none⟩ = some (.int .i64 x) ∧ w.cell? ⟨g, j * 2 + 1, none⟩ = some (.int .i64 y) ∧ w.cell? ⟨g2, j * 2, none⟩ = some (.int .i64 x) ∧ w.cell? ⟨g2, j * 2 + 1, none⟩ = some (.int .i64 y)) := heq
  clear heq
  go_enter Try.func17, Try.ntmps17
  go_wp2
  go_loopw [5] (fun vk wr => ∃ k m : Nat, vk = .int .i64 k ∧ k ≤ L ∧ wr = w.drewN m) (fun vk _ => L - (intOf vk).toNat)
  case atStart => exact ⟨0, 0, rfl, Nat.zero_le _, rfl⟩
  case round =>
    obtain ⟨k, m, rfl, hk, rfl⟩ := hrel
    by_cases hlt : k < L
    · obtain ⟨g2, x, y, rfl, a1, a2, a3, a4⟩ := HEQ.out k hlt
      have hk0 : (0 : Int) ≤ (k : Int) := Int.natCast_nonneg _
      have hk1 : (k : Int) < (L : Int) := by omega
      have hd : (x != x) = false := by simp
      clear HEQ
      go_wp2_with fail
      go_quiet (fail)
      go_wp2
      go_roundw
      case rel => exact ⟨k + 1, _, by go_num, by omega, rfl⟩
      case measure => simp [intOf]; omega
    · go_wp2
      go_ret
      exact ⟨rfl, m, rfl⟩

end Go.Proofs.Qxb6605804a
