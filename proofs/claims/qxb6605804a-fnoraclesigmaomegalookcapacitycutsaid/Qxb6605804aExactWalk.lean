import Derived.Test.Qxb6605804aLook2
namespace Go.Proofs.Qxb6605804a
open Go.RowKit

/-- The law answers true, and of old memory nothing has turned. -/
def Good (w : World) (e : Ending) (w' : World) : Prop := e = .returned (.bool true) ∧ Below w.heap.size w w'

theorem lookB_fault (anarchy leader i step omega : Int) (mn : Bool) : lookB anarchy 3 leader i step mn omega = false := by simp [lookB, anarB, leadB]
theorem lookB_nil (anarchy fault leader i step omega : Int) (hf : fault ≠ 3) : lookB anarchy fault leader i step true omega = (i == leader) := by simp [lookB, leadB, hf]
theorem lookB_late (anarchy fault leader i step omega : Int) (mn : Bool) (hf : fault ≠ 3) (hs : ¬ step ≤ anarchy) : lookB anarchy fault leader i step mn omega = (i == leader) := by simp [lookB, anarB, leadB, hf, hs]
theorem lookB_one (anarchy fault leader i step : Int) (hf : fault ≠ 3) (hs : step ≤ anarchy) : lookB anarchy fault leader i step false 1 = true := by simp [lookB, anarB, hf, hs]
theorem lookB_two (anarchy fault leader i step : Int) (hf : fault ≠ 3) (hs : step ≤ anarchy) : lookB anarchy fault leader i step false 2 = false := by simp [lookB, anarB, hf, hs]
theorem lookB_else (anarchy fault leader i step omega : Int) (hf : fault ≠ 3) (h1 : omega ≠ 1) (h2 : omega ≠ 2) : lookB anarchy fault leader i step false omega = (i == leader) := by simp [lookB, leadB, hf, h1, h2]

theorem below_drewN' {B : Nat} {a w : World} (h : Below B a w) (m : Nat) : Below B a (w.drewN m) := ⟨h.os, h.tape, h.output, h.size, h.block⟩

theorem match_rows {w W : World} {gr cr cu B1 B2 : Nat} {au : Option Addr} {row : List (Int × Int)} (ou2 : w.ownsRow B2 44 2 (.slice (some ⟨gr, 0, none⟩) row.length cr) row.length (pcells row)) (ou1 : w.ownsRow B1 76 2 (.slice au row.length cu) row.length (pcells row))
    (hrl : row.length ≤ 65536) (hW : ∀ b o, b < w.heap.size → W.cell? ⟨b, o, none⟩ = w.cell? ⟨b, o, none⟩) :
    Calls Try.prog 17 #[.slice (some ⟨gr, 0, none⟩) row.length row.length, .slice au row.length cu] W fun e w' => e = .returned (.bool true) ∧ ∃ m, w' = W.drewN m := by
  refine quorumsMatch_any gr row.length row.length cu au W hrl (fun j hj => ?_)
  obtain ⟨g2, d2, hv, _, hg2, kk2⟩ := owns_at2 ou1 (by omega)
  simp only [Value.slice.injEq, true_and] at hv
  obtain ⟨t0, t1⟩ := pcells_get row j _ (List.getElem?_eq_getElem hj)
  have hgr : gr < w.heap.size := (ou2.lt gr rfl).2
  exact ⟨g2, row[j].1, row[j].2, hv.1, ((hW _ _ hgr).trans (ou2.cellAt _ (by omega))).trans t0, ((hW _ _ hgr).trans (ou2.cellAt _ (by omega))).trans t1, ((hW _ _ hg2).trans (kk2 _ (by omega))).trans t0, ((hW _ _ hg2).trans (kk2 _ (by omega))).trans t1⟩

set_option maxHeartbeats 3200000 in
set_option maxRecDepth 100000 in
theorem exact_walk (anarchy fault leader : Int) (ao : Option Addr) (n c : Nat) (Hs : List (List (Int × Int))) (ix step : Int) (mn : Bool) (omega : Int) (w : World) (hs : HeldIn w ao n Hs) (hnil : ao = none → c = 0) :
    Calls Try.prog 3 #[.int .i64 anarchy, .int .i64 fault, .int .i64 leader, .slice ao n c, .int .i64 ix, .int .i64 step, .bool mn, .int .i64 omega] w (Good w) := by
  have HS : Hid (HeldIn w ao n Hs) := hs
  have HN : Hid (ao = none → c = 0) := hnil
  have HL : Hid (Hs.length = n) := hs.1
  clear hs hnil
  go_enter Try.func3, Try.ntmps3
  go_wp2_with fail
  refine (bytes9_any _ _ _ _ _ _ _ _ _ _ Hs _ HS.out).mono ?_
  rintro e w' ⟨r, rfl, rfl, _⟩
  cases r with
  | false =>
    go_wp2
    go_ret
    exact ⟨rfl, Below.refl _ _⟩
  | true =>
    go_wp2_with fail
    refine (heldTooBig_any _ _ _ Hs _ HS.out).mono ?_
    rintro e w' ⟨r, rfl, rfl, hr⟩
    cases r with
    | true =>
      go_wp2
      go_ret
      exact ⟨rfl, Below.refl _ _⟩
    | false =>
      obtain ⟨hn, hsm⟩ := hr rfl
      have HSM : Hid (∀ (j : Nat) (row : List (Int × Int)), Hs[j]? = some row → row.length ≤ 65536) := hsm
      clear hr hsm
      go_wp2_with fail
      refine (lookPremise_any _ _ _ _ _ _).mono ?_
      rintro e w' ⟨r, rfl, rfl, hr⟩
      cases r with
      | false =>
        go_wp2
        go_ret
        exact ⟨rfl, Below.refl _ _⟩
      | true =>
        obtain ⟨p0, p1, hst⟩ := hr rfl
        clear hr
        obtain ⟨i, rfl⟩ := Int.eq_ofNat_of_zero_le p0
        have hin : i < n := by omega
        clear p0 p1
        go_wp2_with fail
        refine (cloneHeld_any ao n c Hs w HS.out HN.out hn HSM.out).mono ?_
        rintro e w1 ⟨v, us, rfl, o1, r1, B1⟩
        obtain ⟨g1, c1, hv, _, _, _⟩ := owns_at2 o1 (by omega)
        rw [hv] at o1
        rw [hv]
        clear hv HS HN
        go_wp2_with fail
        refine (toHeld_any _ g1 n c1 us Hs w1 o1 r1 HL.out hn HSM.out).mono ?_
        rintro e w2 ⟨us2, rfl, o2, r2, rm2, B2⟩
        have o1' := ownsRow_below o1 B2 (Nat.le_refl _)
        have r1' := r1.below B2
        have BW2 := B1.trans (B2.mono B1.size)
        clear o1 r1 B1 B2
        go_wp2_with fail
        refine (newS_any anarchy fault leader _ _ _ w2).mono ?_
        rintro e w3 ⟨G, rfl, hG0, hG, hO, B3⟩
        have o1 := ownsRow_below o1' B3 (Nat.le_refl _)
        have r1 := r1'.below B3
        have o2' := ownsRow_below o2 B3 (Nat.le_refl _)
        have r2' := r2.below B3
        have BW3 := BW2.trans (B3.mono BW2.size)
        clear o1' r1' o2 r2 B3 BW2
        go_wp2_with fail
        refine (move_any mn omega w3).mono ?_
        rintro e w4 ⟨m, rfl, hM, B4⟩
        have o1' := ownsRow_below o1 B4 (Nat.le_refl _)
        have r1' := r1.below B4
        have o2 := ownsRow_below o2' B4 (Nat.le_refl _)
        have r2 := r2'.below B4
        have hO' := hO.below B4 hG
        have hG4 : G < w4.heap.size := by have := B4.size; omega
        have BW4 := BW3.trans (B4.mono BW3.size)
        clear o1 r1 o2' r2' B4 BW3 hO hG
        obtain ⟨row, hrow⟩ : ∃ row, Hs[i]? = some row := ⟨_, List.getElem?_eq_getElem (by rw [HL.out]; exact hin)⟩
        obtain ⟨gr, hgr⟩ := rm2 i row hin hrow
        have hrl := HSM.out i row hrow
        have hc := (o2.cellAt i (by omega)).trans hgr
        have hgh : w1.heap.size < w4.heap.size := (o2.lt w1.heap.size rfl).2
        have hk := zlook_any G w1.heap.size n n gr row.length i anarchy fault leader step omega mn m w4 hO' hM hin hc hrl hst hG4 hgh
        obtain ⟨u2, hu2, ou2⟩ := r2 i row hin hrow
        rw [hgr] at hu2
        obtain rfl := Option.some.inj hu2
        obtain ⟨u1, hu1, ou1⟩ := r1' i row hin hrow
        obtain ⟨au, cu, rfl⟩ : ∃ a c, u1 = .slice a row.length c := by
          rcases ou1.2 with ⟨h1, h2⟩ | ⟨g', cap, cur, h1, _⟩
          · exact ⟨none, 0, by rw [h1, h2]⟩
          · exact ⟨_, _, h1⟩
        have kc1 := (o1'.cellAt i (by omega)).trans hu1
        have hg1 : g1 < w4.heap.size := (o1'.lt g1 rfl).2
        have hq : ∀ W : World, (∀ b o, b < w4.heap.size → W.cell? ⟨b, o, none⟩ = w4.cell? ⟨b, o, none⟩) → Calls Try.prog 17 #[.slice (some ⟨gr, 0, none⟩) row.length row.length, .slice au row.length cu] W fun e w' => e = .returned (.bool true) ∧ ∃ m, w' = W.drewN m := fun W hW => match_rows ou2 ou1 hrl hW
        obtain ⟨L, hL⟩ : ∃ L, L = row.length := ⟨_, rfl⟩
        rw [← hL] at hk kc1 hq
        have HQ : Hid (∀ W : World, (∀ b o, b < w4.heap.size → W.cell? ⟨b, o, none⟩ = w4.cell? ⟨b, o, none⟩) → Calls Try.prog 17 #[.slice (some ⟨gr, 0, none⟩) L L, .slice au L cu] W fun e w' => e = .returned (.bool true) ∧ ∃ m, w' = W.drewN m) := hq
        clear hq hL hrl ou1 ou2 hu1 hu2 hgr hc rm2 r1' r2 o1' o2 hO' hM hrow hG0 hgh
        have hi0 : (0 : Int) ≤ (i : Int) := Int.natCast_nonneg _
        have hi1 : (i : Int) < (n : Int) := by omega
        go_wp2_with fail
        refine hk.mono ?_
        rintro e w5 ⟨rfl, B5⟩
        have kc5 := (B5.cell (p := ⟨g1, i, none⟩) hg1).trans kc1
        have hg5 : g1 < w5.heap.size := by have := B5.size; omega
        have hs45 := B5.size
        have BW5 := BW4.trans (B5.mono BW4.size)
        have hsz5 := BW5.size
        clear hk kc1
        by_cases hf : fault = 3
        · subst hf
          rw [lookB_fault]
          cases mn with
          | true =>
            go_wp2_with fail
            go_quiet ((go_at_call 17; exact Calls.quiet_of (HQ.out _ (fun b o h => (World.cell?_alloc_past _ _ _ (by omega)).trans (B5.cell (p := ⟨b, o, none⟩) h)))))
            go_wp2
            go_ret
            exact ⟨rfl, below_drewN' (BW5.alloc hsz5 _) _⟩
          | false =>
            go_wp2_with fail
            go_quiet ((go_at_call 17; exact Calls.quiet_of (HQ.out _ (fun b o h => (World.cell?_alloc_past _ _ _ (by omega)).trans (B5.cell (p := ⟨b, o, none⟩) h)))))
            go_wp2
            go_ret
            exact ⟨rfl, below_drewN' (BW5.alloc hsz5 _) _⟩
        · have hd : (fault != 3) = true := by simpa using hf
          cases mn with
          | true =>
            rw [lookB_nil _ _ _ _ _ _ hf]
            go_wp2_with fail
            go_quiet ((go_at_call 17; exact Calls.quiet_of (HQ.out _ (fun b o h => (World.cell?_alloc_past _ _ _ (by omega)).trans (B5.cell (p := ⟨b, o, none⟩) h)))))
            go_wp2
            go_ret
            exact ⟨rfl, below_drewN' (BW5.alloc hsz5 _) _⟩
          | false =>
            by_cases hsa : step ≤ anarchy
            · by_cases h1 : omega = 1
              · subst h1
                rw [lookB_one _ _ _ _ _ hf hsa]
                go_wp2_with fail
                go_quiet ((go_at_call 17; exact Calls.quiet_of (HQ.out _ (fun b o h => (World.cell?_alloc_past _ _ _ (by omega)).trans (B5.cell (p := ⟨b, o, none⟩) h)))))
                go_wp2
                go_ret
                exact ⟨rfl, below_drewN' (BW5.alloc hsz5 _) _⟩
              · have hd1 : (omega == 1) = false := by simpa using h1
                by_cases h2 : omega = 2
                · subst h2
                  rw [lookB_two _ _ _ _ _ hf hsa]
                  go_wp2_with fail
                  go_quiet ((go_at_call 17; exact Calls.quiet_of (HQ.out _ (fun b o h => (World.cell?_alloc_past _ _ _ (by omega)).trans (B5.cell (p := ⟨b, o, none⟩) h)))))
                  go_wp2
                  go_ret
                  exact ⟨rfl, below_drewN' (BW5.alloc hsz5 _) _⟩
                · have hd2 : (omega == 2) = false := by simpa using h2
                  rw [lookB_else _ _ _ _ _ _ hf h1 h2]
                  go_wp2_with fail
                  go_quiet ((go_at_call 17; exact Calls.quiet_of (HQ.out _ (fun b o h => (World.cell?_alloc_past _ _ _ (by omega)).trans (B5.cell (p := ⟨b, o, none⟩) h)))))
                  go_wp2
                  go_ret
                  exact ⟨rfl, below_drewN' (BW5.alloc hsz5 _) _⟩
            · have hd1 : decide (step ≤ anarchy) = false := by simpa using hsa
              rw [lookB_late _ _ _ _ _ _ _ hf hsa]
              go_wp2_with fail
              go_quiet ((go_at_call 17; exact Calls.quiet_of (HQ.out _ (fun b o h => (World.cell?_alloc_past _ _ _ (by omega)).trans (B5.cell (p := ⟨b, o, none⟩) h)))))
              go_wp2
              go_ret
              exact ⟨rfl, below_drewN' (BW5.alloc hsz5 _) _⟩

end Go.Proofs.Qxb6605804a
