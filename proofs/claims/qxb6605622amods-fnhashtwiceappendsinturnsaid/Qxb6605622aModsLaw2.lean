/-
  SEAT b6605622aM: THE LAW FnHashTwiceAppendsInTurn (4), walked.
-/
import Derived.Test.Qxb6605622aModsLaw1
namespace Go.Proofs.Qxb6605622aMods
open Go.RowKit Go.Maps
variable {H : Type}

set_option maxHeartbeats 2000000 in
set_option maxRecDepth 100000 in
theorem law2 (a : Option Addr) (b off len cap : Nat) (S : Nat → ByteArray) (mv mu : Value) (D E : DataW H) (w : World) (hn : a = none → len = 0 ∧ cap = 0) (hK : Strs w a b off len S) (hM : MapIs w w.heap.size mv D) (hU : MapIs w w.heap.size mu E)
    (hsD : Maps.size D ≤ 9223372036854775807) (hsE : Maps.size E ≤ 9223372036854775807) :
    Calls Trym.prog 4 #[.slice a len cap, mv, mu] w fun e w' => e = .returned (.bool true) ∧ Below w.heap.size w w' := by
  have hlen := hM.len
  have hlenU := hU.len
  have hkb := hK.bound
  have HK : Hid (Strs w a b off len S) := hK
  have HM : Hid (MapIs w w.heap.size mv D) := hM
  have HU : Hid (MapIs w w.heap.size mu E) := hU
  have HN : Hid (a = none → len = 0 ∧ cap = 0) := hn
  clear hK hM hn hU
  by_cases h1 : 4096 < (len : Int)
  · go_enter Trym.func4, Trym.ntmps4
    go_wp2
    go_ret
    exact ⟨rfl, Below.refl _ _⟩
  by_cases h2 : 4096 < (Maps.size D : Int)
  · go_enter Trym.func4, Trym.ntmps4
    go_wp2
    go_ret
    exact ⟨rfl, Below.refl _ _⟩
  by_cases h3 : 4096 < (Maps.size E : Int)
  · go_enter Trym.func4, Trym.ntmps4
    go_wp2
    go_ret
    exact ⟨rfl, Below.refl _ _⟩
  have h1' : decide (4096 < (len : Int)) = false := by simpa using h1
  have h2' : decide (4096 < (Maps.size D : Int)) = false := by simpa using h2
  have h3' : decide (4096 < (Maps.size E : Int)) = false := by simpa using h3
  go_enter Trym.func4, Trym.ntmps4
  go_wp2_with fail
  refine (count_any a b off len cap S w HK.out).mono ?_
  rintro e w' ⟨⟨z, rfl⟩, rfl⟩
  by_cases hz : 1048576 < z
  · go_wp2
    go_ret
    exact ⟨rfl, Below.refl _ _⟩
  have hz' : decide (1048576 < z) = false := by simpa using hz
  clear hlen hlenU
  go_wp2_with fail
  refine (clone_any a b off len cap S w HN.out HK.out (by omega)).mono ?_
  rintro e w1 ⟨a1, b1, c1, rfl, hS1, hb1, _⟩
  go_wp2_with fail
  refine (clone_any a b off len cap S w1 HN.out (HK.out.below hb1 (fun h => HK.out.lt h)) (by omega)).mono ?_
  rintro e w2 ⟨a2, b2, c2, rfl, hS2, hb2, _⟩
  go_wp2_with fail
  refine (newCall _ w2 a2 len c2 rfl).mono ?_
  rintro e w3 ⟨rfl, rfl⟩
  have hsz1 := hb1.size
  have hsz2 := hb2.size
  have hb12 : Below w.heap.size w w2 := hb1.trans (hb2.mono hsz1)
  have hbn : Below w2.heap.size w2 (w2.alloc (.cells #[.slice a2 len c2, .slice none 0 0] 66)) := (Below.refl _ _).alloc (Nat.le_refl _) _
  have hM3 : MapIs (w2.alloc (.cells #[.slice a2 len c2, .slice none 0 0] 66)) w2.heap.size mv D := ((HM.out.below hb12 (Nat.le_refl _)).mono (by omega)).below hbn (Nat.le_refl _)
  have hU3 : MapIs (w2.alloc (.cells #[.slice a2 len c2, .slice none 0 0] 66)) w2.heap.size mu E := ((HU.out.below hb12 (Nat.le_refl _)).mono (by omega)).below hbn (Nat.le_refl _)
  go_wp2_with fail
  refine (door_hash w2.heap.size (.slice a2 len c2) (.slice none 0 0) mv 0 [] D _ (sc_new w2 _) hM3 (by omega) (by omega)).mono ?_
  rintro e w4 ⟨rfl, L, hE, av4, hS4, hb4⟩
  have hLs := hE.len
  have hS4' : Sc w4 w2.heap.size (.slice a2 len c2) av4 (1 + 2 * Maps.size D) ([cntV D] ++ pairs L) := by rw [← hLs]; simpa [Nat.add_comm] using hS4
  have hU4 := hU3.below hb4 (Nat.le_refl _)
  go_wp2_with fail
  refine (door_hash w2.heap.size (.slice a2 len c2) av4 mu (1 + 2 * Maps.size D) ([cntV D] ++ pairs L) E _ hS4' hU4 (by omega) (by omega)).mono ?_
  rintro e w5 ⟨rfl, L2, hE2, av5, hS5, hb5⟩
  have hLs2 := hE2.len
  have en : 1 + 2 * Maps.size D + 1 + 2 * L2.length = 2 + 2 * Maps.size D + 2 * Maps.size E := by omega
  rw [en] at hS5
  have hSx : Sc w5 w2.heap.size (.slice a2 len c2) av5 (2 + 2 * Maps.size D + 2 * Maps.size E) ([cntV D] ++ pairs L ++ ([cntV E] ++ pairs L2)) := by simpa using hS5
  have hSy : Sc w5 w2.heap.size (.slice a2 len c2) av5 (2 + 2 * Maps.size D + 2 * Maps.size E) (([cntV D] ++ pairs L ++ [cntV E]) ++ pairs L2 ++ []) := by simpa using hS5
  obtain ⟨g, cp, rfl, hR, hcell, hnn⟩ := row_of hSx (by omega)
  obtain ⟨g', cp', hgg, hR2, hcell2, hnn2⟩ := row_of hSy (by omega)
  obtain ⟨rfl, rfl⟩ : g = g' ∧ cp = cp' := by simpa using hgg
  clear hnn hnn2 hgg
  have hM5 := (hM3.below hb4 (Nat.le_refl _)).below hb5 (Nat.le_refl _)
  have hU5 := hU4.below hb5 (Nat.le_refl _)
  have hlen5 := hM5.len
  have hlenU5 := hU5.len
  have hSA : Strs w5 a2 b2 0 len S := ((hS2.below hbn (fun h => hS2.lt h)).below hb4 (fun h => hS2.lt h)).below hb5 (fun h => hS2.lt h)
  have hSB : Strs w5 a1 b1 0 len S := (((hS1.below hb2 (fun h => hS1.lt h)).below hbn (fun h => by have := hS1.lt h; omega)).below hb4 (fun h => by have := hS1.lt h; omega)).below hb5 (fun h => by have := hS1.lt h; omega)
  have hbelow : Below w.heap.size w w5 := ((hb12.alloc (by omega) _).trans (hb4.mono (by omega))).trans (hb5.mono (by omega))
  have hct : w5.cell? ⟨g, 0, none⟩ = some (cntV D) := hcell 0 _ (by simp)
  have hct2 : w5.cell? ⟨g, 1 + 2 * Maps.size D, none⟩ = some (cntV E) := hcell _ _ (by
    rw [List.getElem?_append_right (by simp [pairs_length]; omega)]
    have : 1 + 2 * Maps.size D - ([cntV D] ++ pairs L).length = 0 := by simp [pairs_length]; omega
    rw [this]
    rfl)
  have hc0 := hSx.c0
  have hc1 := hSx.c1
  have hsz5 := hbelow.size
  have hpl : ([cntV D] ++ pairs L ++ [cntV E]).length = 2 + 2 * Maps.size D := by simp [pairs_length]; omega
  rw [hpl] at hR2
  have HE1 : Hid (Entries D L) := hE
  have HE2 : Hid (Entries E L2) := hE2
  have hne : (((2 + 2 * Maps.size D + 2 * Maps.size E : Nat) : Int) != 2 + 2 * (Maps.size D : Int) + 2 * (Maps.size E : Int)) = false := by simp
  have h13 : Hid (Calls Trym.prog 13 #[.pointer (some ⟨w2.heap.size, 0, none⟩), .int .i64 1, mv] w5 fun e w' => e = .returned (.bool true) ∧ Below w5.heap.size w5 w') :=
    pairs_any w2.heap.size g (2 + 2 * Maps.size D + 2 * Maps.size E) cp 1 w2.heap.size mv D L w5 hR hM5 (Nat.le_of_lt hR.low.1) HE1.out (by omega) (by omega)
  clear hE hLs hS4 hS4' hcell hcell2 hM3 hU3 hU4 hb4 hb5 hbn hb12 hb2 hb1 hS1 hS2 hE2 hLs2 hS5 hSx hSy hpl en
  go_wp2_with fail
  refine (argLen w2.heap.size _ (2 + 2 * Maps.size D + 2 * Maps.size E) cp w5 hc1).mono ?_
  rintro e w' ⟨rfl, rfl⟩
  go_wp2_with fail
  refine (countAt w2.heap.size g (2 + 2 * Maps.size D + 2 * Maps.size E) cp 0 (2 * (Maps.size D : Int)) w5 hc1 (by omega) (by omega) hct).mono ?_
  rintro e w' ⟨rfl, rfl⟩
  go_wp2_with fail
  refine h13.out.mono ?_
  rintro e w6 ⟨rfl, hb6⟩
  have hsz6 := hb6.size
  have hlo := hR.low
  have hc61 : w6.cell? ⟨w2.heap.size, 1, none⟩ = some (.slice (some ⟨g, 0, none⟩) (2 + 2 * Maps.size D + 2 * Maps.size E) cp) := (hb6.cell (p := ⟨w2.heap.size, 1, none⟩) hlo.1).trans hc1
  have hct6 : w6.cell? ⟨g, (1 + 2 * (Maps.size D : Int)).toNat, none⟩ = some (cntV E) := by
    rw [show (1 + 2 * (Maps.size D : Int)).toNat = 1 + 2 * Maps.size D by omega]
    exact (hb6.cell (p := ⟨g, 1 + 2 * Maps.size D, none⟩) hlo.2).trans hct2
  have hU6 := hU5.below hb6 (by omega)
  have h13b : Hid (Calls Trym.prog 13 #[.pointer (some ⟨w2.heap.size, 0, none⟩), .int .i64 (2 + 2 * (Maps.size D : Int)), mu] w6 fun e w' => e = .returned (.bool true) ∧ Below w6.heap.size w6 w') := by
    have := pairs_any w2.heap.size g (2 + 2 * Maps.size D + 2 * Maps.size E) cp (2 + 2 * Maps.size D) w2.heap.size mu E L2 w6 (hR2.below hb6) hU6 (by omega) HE2.out (by omega) (by omega)
    rwa [show ((2 + 2 * Maps.size D : Nat) : Int) = 2 + 2 * (Maps.size D : Int) by omega] at this
  have hc60 : w6.cell? ⟨w2.heap.size, 0, none⟩ = some (.slice a2 len c2) := (hb6.cell (p := ⟨w2.heap.size, 0, none⟩) hlo.1).trans hc0
  clear hlen5 hlenU5 hc0 hc1 hct hct2 hne
  go_wp2_with fail
  refine (countAt w2.heap.size g (2 + 2 * Maps.size D + 2 * Maps.size E) cp (1 + 2 * (Maps.size D : Int)) (2 * (Maps.size E : Int)) w6 hc61 (by omega) (by omega) hct6).mono ?_
  rintro e w' ⟨rfl, rfl⟩
  go_wp2_with fail
  refine h13b.out.mono ?_
  rintro e w7 ⟨rfl, hb7⟩
  have hsz7 := hb7.size
  have hc70 : w7.cell? ⟨w2.heap.size, 0, none⟩ = some (.slice a2 len c2) := (hb7.cell (p := ⟨w2.heap.size, 0, none⟩) (by show w2.heap.size < _; omega)).trans hc60
  have hSA7 := (hSA.below hb6 (fun h => hSA.lt h)).below hb7 (fun h => by have := hSA.lt h; omega)
  have hSB7 := (hSB.below hb6 (fun h => hSB.lt h)).below hb7 (fun h => by have := hSB.lt h; omega)
  clear hc61 hct6 hc60
  go_wp2_with fail
  refine (callKeys w2.heap.size a2 len c2 w7 hc70).mono ?_
  rintro e w' ⟨rfl, rfl⟩
  go_wp2_with fail
  refine (same_any a2 a1 b2 0 b1 0 len c2 c1 S w7 hSA7 hSB7).mono ?_
  rintro e w8 ⟨rfl, hb8⟩
  go_wp2
  go_ret
  exact ⟨by simp, ((hbelow.trans (hb6.mono hsz5)).trans (hb7.mono (by omega))).trans (hb8.mono (by omega))⟩

end Go.Proofs.Qxb6605622aMods
