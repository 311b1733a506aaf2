/-
  SEAT b6605622aM: THE LAW FnHashLaysOutEveryEntryOnce (3), walked.
-/
import Derived.Test.Qxb6605622aModsHashWalk
import Derived.Test.Qxb6605622aModsPairs
namespace Go.Proofs.Qxb6605622aMods
open Go.RowKit Go.Maps
variable {H : Type}

/-- The object as it is made. -/
theorem sc_new (w : World) (kv : Value) : Sc (w.alloc (.cells #[kv, .slice none 0 0] 66)) w.heap.size kv (.slice none 0 0) 0 [] := by
  have hb := heap_alloc_new w (.cells #[kv, .slice none 0 0] 66)
  exact ⟨by rw [cell_of_row _ _ _ _ _ _ hb]; rfl, by rw [cell_of_row _ _ _ _ _ _ hb]; rfl, by unfold World.frozen?; rw [hb]; rfl, World.ownsRow_nil _ _ _ _⟩

/-- What the check reads of a row that owns 'pre', the pairs of L, 'post'. -/
theorem row_of {w : World} {sb n : Nat} {kv av : Value} {pre post : List Value} {L : List (List UInt8 × List UInt8)} (h : Sc w sb kv av n (pre ++ pairs L ++ post)) (hp : 0 < n) :
    ∃ g cap, av = .slice (some ⟨g, 0, none⟩) n cap ∧ Row w sb g n cap pre.length L ∧ (∀ j u, (pre ++ pairs L ++ post)[j]? = some u → w.cell? ⟨g, j, none⟩ = some u) ∧ n = pre.length + 2 * L.length + post.length := by
  obtain ⟨g, cap, rfl, hg, hgl⟩ := h.own.form hp
  have hn : n = pre.length + 2 * L.length + post.length := by have := h.own.1; simp [pairs_length] at this; omega
  have hcell : ∀ j u, (pre ++ pairs L ++ post)[j]? = some u → w.cell? ⟨g, j, none⟩ = some u := fun j u hj => by
    have := h.own.cells (g := g) rfl j u hj
    rw [WideShapes.add_plain] at this
    simpa using this
  refine ⟨g, cap, rfl, ⟨h.c1, by omega, fun k hk => hcell _ _ ?_, fun k hk => hcell _ _ ?_, h.lt, hgl⟩, hcell, hn⟩
  · rw [List.append_assoc, List.getElem?_append_right (by omega), Nat.add_sub_cancel_left, List.getElem?_append_left (by rw [pairs_length]; omega)]
    exact (pair_cells L k hk).1
  · rw [List.append_assoc, List.getElem?_append_right (by omega), show pre.length + 2 * k + 1 - pre.length = 2 * k + 1 by omega, List.getElem?_append_left (by rw [pairs_length]; omega)]
    exact (pair_cells L k hk).2

set_option maxHeartbeats 1000000 in
set_option maxRecDepth 100000 in
theorem law1 (a : Option Addr) (b off len cap : Nat) (S : Nat → ByteArray) (mv : Value) (D : DataW H) (w : World) (hn : a = none → len = 0 ∧ cap = 0) (hK : Strs w a b off len S) (hM : MapIs w w.heap.size mv D) (hsD : Maps.size D ≤ 9223372036854775807) :
    Calls Trym.prog 3 #[.slice a len cap, mv] w fun e w' => e = .returned (.bool true) ∧ Below w.heap.size w w' := by
  have hlen := hM.len
  have hkb := hK.bound
  have HK : Hid (Strs w a b off len S) := hK
  have HM : Hid (MapIs w w.heap.size mv D) := hM
  have HN : Hid (a = none → len = 0 ∧ cap = 0) := hn
  clear hK hM hn
  by_cases h1 : 4096 < (len : Int)
  · go_enter Trym.func3, Trym.ntmps3
    go_wp2
    go_ret
    exact ⟨rfl, Below.refl _ _⟩
  by_cases h2 : 4096 < (Maps.size D : Int)
  · go_enter Trym.func3, Trym.ntmps3
    go_wp2
    go_ret
    exact ⟨rfl, Below.refl _ _⟩
  have h1' : decide (4096 < (len : Int)) = false := by simpa using h1
  have h2' : decide (4096 < (Maps.size D : Int)) = false := by simpa using h2
  go_enter Trym.func3, Trym.ntmps3
  go_wp2_with fail
  refine (count_any a b off len cap S w HK.out).mono ?_
  rintro e w' ⟨⟨z, rfl⟩, rfl⟩
  by_cases hz : 1048576 < z
  · go_wp2
    go_ret
    exact ⟨rfl, Below.refl _ _⟩
  have hz' : decide (1048576 < z) = false := by simpa using hz
  clear hlen
  go_wp2_with fail
  refine (clone_any a b off len cap S w HN.out HK.out (by omega)).mono ?_
  rintro e w1 ⟨a1, b1, c1, rfl, hS1, hb1, _⟩
  go_wp2_with fail
  refine (clone_any a b off len cap S w1 HN.out (HK.out.below hb1 (fun h => HK.out.lt h)) (by omega)).mono ?_
  rintro e w2 ⟨a2, b2, c2, rfl, hS2, hb2, _⟩
  go_wp2_with fail
  refine (newCall _ w2 a2 len c2 rfl).mono ?_
  rintro e w3 ⟨rfl, rfl⟩
  have hsz1 := hb1.size
  have hsz2 := hb2.size
  have hb12 : Below w.heap.size w w2 := hb1.trans (hb2.mono hsz1)
  have hM3 : MapIs (w2.alloc (.cells #[.slice a2 len c2, .slice none 0 0] 66)) w2.heap.size mv D := ((HM.out.below hb12 (Nat.le_refl _)).mono (by omega)).below ((Below.refl w2.heap.size w2).alloc (Nat.le_refl _) _) (Nat.le_refl _)
  go_wp2_with fail
  refine (door_hash w2.heap.size (.slice a2 len c2) (.slice none 0 0) mv 0 [] D _ (sc_new w2 _) hM3 (by omega) (by omega)).mono ?_
  rintro e w4 ⟨rfl, L, hE, av4, hS4, hb4⟩
  have hLs := hE.len
  have hM4 := hM3.below hb4 (Nat.le_refl _)
  have hS4' : Sc w4 w2.heap.size (.slice a2 len c2) av4 (1 + 2 * Maps.size D) ([cntV D] ++ pairs L ++ []) := by rw [← hLs]; simpa [Nat.add_comm] using hS4
  obtain ⟨g, cp, rfl, hR, hcell, hnn⟩ := row_of hS4' (by omega)
  clear hnn
  have hlen4 := hM4.len
  have hSA : Strs w4 a2 b2 0 len S := (hS2.below ((Below.refl w2.heap.size w2).alloc (Nat.le_refl _) _) (fun h => hS2.lt h)).below hb4 (fun h => hS2.lt h)
  have hSB : Strs w4 a1 b1 0 len S := ((hS1.below hb2 (fun h => hS1.lt h)).below ((Below.refl w2.heap.size w2).alloc (Nat.le_refl _) _) (fun h => by have := hS1.lt h; omega)).below hb4 (fun h => by have := hS1.lt h; omega)
  have hbelow : Below w.heap.size w w4 := (hb12.alloc (by omega) _).trans (hb4.mono (by omega))
  have hct : w4.cell? ⟨g, 0, none⟩ = some (cntV D) := hcell 0 _ (by simp)
  have hc0 := hS4'.c0
  have hc1 := hS4'.c1
  have hsz4 := hbelow.size
  have hne : (((1 + 2 * Maps.size D : Nat) : Int) != 1 + 2 * (Maps.size D : Int)) = false := by simp
  have HE : Hid (Entries D L) := hE
  clear hE hLs hS4 hS4' hcell hM3 hb4 hb12 hb2 hb1 hS1 hS2
  have h13 : Hid (Calls Trym.prog 13 #[.pointer (some ⟨w2.heap.size, 0, none⟩), .int .i64 1, mv] w4 fun e w' => e = .returned (.bool true) ∧ Below w4.heap.size w4 w') :=
    pairs_any w2.heap.size g (1 + 2 * Maps.size D) cp 1 w2.heap.size mv D L w4 hR hM4 (Nat.le_of_lt hR.low.1) HE.out (by omega) (by omega)
  go_wp2_with fail
  refine (argLen w2.heap.size _ (1 + 2 * Maps.size D) cp w4 hc1).mono ?_
  rintro e w' ⟨rfl, rfl⟩
  go_wp2_with fail
  refine (countAt w2.heap.size g (1 + 2 * Maps.size D) cp 0 (2 * (Maps.size D : Int)) w4 hc1 (by omega) (by omega) hct).mono ?_
  rintro e w' ⟨rfl, rfl⟩
  go_wp2_with fail
  refine h13.out.mono ?_
  rintro e w5 ⟨rfl, hb5⟩
  have hsz5 := hb5.size
  have hlo := hR.low.1
  have hc5 : w5.cell? ⟨w2.heap.size, 0, none⟩ = some (.slice a2 len c2) := (hb5.cell (p := ⟨w2.heap.size, 0, none⟩) hlo).trans hc0
  have hSA5 := hSA.below hb5 (fun h => hSA.lt h)
  have hSB5 := hSB.below hb5 (fun h => hSB.lt h)
  clear hlen4 hne hc0 hc1 hct
  go_wp2_with fail
  refine (callKeys w2.heap.size a2 len c2 w5 hc5).mono ?_
  rintro e w' ⟨rfl, rfl⟩
  go_wp2_with fail
  refine (same_any a2 a1 b2 0 b1 0 len c2 c1 S w5 hSA5 hSB5).mono ?_
  rintro e w6 ⟨rfl, hb6⟩
  go_wp2
  go_ret
  exact ⟨by simp, (hbelow.trans (hb5.mono hsz4)).trans (hb6.mono (by omega))⟩

end Go.Proofs.Qxb6605622aMods
