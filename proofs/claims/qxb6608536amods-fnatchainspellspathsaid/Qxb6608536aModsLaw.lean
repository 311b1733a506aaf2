/-
  SEAT b6608536aM: THE LAW FnAtChainSpellsPath (4), walked.
-/
import Derived.Test.Qxb6608536aModsAt
import Derived.LoopN
namespace Go.Proofs.Qxb6608536aMods
open Go.RowKit

theorem pe_new (w : World) (p : ByteArray) (cv : Value) : PE (w.alloc (.cells #[.string p, cv] 37)) w.heap.size p cv := by
  have hb := heap_alloc_new w (.cells #[.string p, cv] 37)
  exact ⟨by rw [cell_of_row _ _ _ _ _ _ hb]; rfl, by rw [cell_of_row _ _ _ _ _ _ hb]; rfl, by unfold World.frozen?; rw [hb]; rfl⟩

set_option maxHeartbeats 2000000 in
set_option maxRecDepth 100000 in
theorem law (a : Option Addr) (b off len cap : Nat) (S : Nat → ByteArray) (m : ByteArray) (w : World) (h : Strs w a b off len S) (hm : m.size ≤ 9223372036854775807) :
    Calls Trym.prog 4 #[.slice a len cap, .string m] w fun e w' => e = .returned (.bool true) ∧ Below w.heap.size w w' := by
  have hb := h.bound
  have H : Hid (Strs w a b off len S) := h
  clear h
  by_cases hbig : 1048576 < (m.size : Int)
  · go_enter Trym.func4, Trym.ntmps4
    go_wp2_with (go_at_call 11; refine (bytes_any _ _ _ _ _ _ _ _ H.out).mono ?_; rintro e w' ⟨⟨t, rfl⟩, rfl⟩)
    all_goals
      go_ret
      exact ⟨rfl, Below.refl _ _⟩
  have hb' : decide (1048576 < (m.size : Int)) = false := by simpa using hbig
  go_enter Trym.func4, Trym.ntmps4
  go_wp2_with (go_at_call 11; refine (bytes_any _ _ _ _ _ _ _ _ H.out).mono ?_; rintro e w' ⟨⟨t, rfl⟩, rfl⟩)
  · go_ret
    exact ⟨rfl, Below.refl _ _⟩
  go_loop [5, 6] (fun z i => ∃ (k : Nat), k ≤ len ∧ i = .int .i64 k ∧ z = .int .i64 (tot S m.size k) ∧ tot S m.size k ≤ 1048576) (fun _ i => len - (intOf i).toNat)
  case atStart => exact ⟨0, Nat.zero_le _, rfl, rfl, by simp only [tot]; omega⟩
  case round =>
    obtain ⟨k, hk, rfl, rfl, hn1⟩ := hrel
    by_cases hlt : k < len
    · obtain rfl := H.out.at_ (by omega)
      have hc := H.out.cell k hlt
      have hz := H.out.small k hlt
      have hn3 : (tot S m.size k : Int) ≤ 1048576 := by omega
      by_cases hs : 1048576 < ((S k).size : Int)
      · go_wp2
        go_ret
        exact ⟨rfl, Below.refl _ _⟩
      · by_cases hs2 : 1048576 < (tot S m.size k : Int) + (16 + ((S k).size : Int))
        · go_wp2
          go_ret
          exact ⟨rfl, Below.refl _ _⟩
        · go_wp2
          go_round
          case rel => exact ⟨k + 1, by omega, by go_num, by simp only [tot]; go_num, by simp only [tot]; omega⟩
          case measure => simp [intOf]; omega
    · obtain rfl : len = k := by omega
      clear hk hlt
      by_cases h0 : len = 0
      · have h0' : ((len : Int) == 0) = true := by simpa using h0
        go_wp2
        go_ret
        exact ⟨rfl, Below.refl _ _⟩
      have h0' : ((len : Int) == 0) = false := by simpa using h0
      have hpos : 0 < len := by omega
      obtain rfl := H.out.at_ hpos
      clear h0
      go_wp2
      go_loop [7] (fun i => ∃ (k : Nat), k ≤ len ∧ i = .int .i64 k ∧ Hid (∀ j, j < k → 0 < (S j).size)) (fun i => len - (intOf i).toNat)
      case atStart => exact ⟨0, Nat.zero_le _, rfl, fun j hj => by omega⟩
      case round =>
        obtain ⟨k, hk, rfl, HN⟩ := hrel
        by_cases hlt : k < len
        · have hc := H.out.cell k hlt
          by_cases hs : (S k).size = 0
          · have hs' : (((S k).size : Int) == 0) = true := by simpa using hs
            clear hs
            go_wp2
            go_ret
            exact ⟨rfl, Below.refl _ _⟩
          · have hs' : (((S k).size : Int) == 0) = false := by simpa using hs
            have HS : Hid (0 < (S k).size) := Nat.pos_of_ne_zero hs
            clear hs
            go_wp2
            go_round
            case rel =>
              refine ⟨k + 1, by omega, by go_num, fun j hj => ?_⟩
              by_cases e : j = k
              · subst e; exact HS.out
              · exact HN.out j (by omega)
            case measure => simp [intOf]; omega
        · obtain rfl : len = k := by omega
          clear hk hlt
          have htl := tot_len S m.size len
          have hcl : Hid (∀ (w' : World) j, j < len → Below w.heap.size w w' → w'.cell? ⟨b, off + j, none⟩ = some (.string (S j))) := fun w' j hj hb => (hb.cell (p := ⟨b, off + j, none⟩) (H.out.lt hpos)).trans (H.out.cell j hj)
          have hB1 : Below w.heap.size w (w.alloc (.cells #[.string m] 42)) := (Below.refl _ _).alloc (Nat.le_refl _) _
          have hcL : (w.alloc (.cells #[.string m] 42)).cell? ⟨b, off + (len - 1), none⟩ = some (.string (S (len - 1))) := hcl.out _ _ (by omega) hB1
          go_wp2_with fail
          refine (cause_any m w).mono ?_
          rintro e w' ⟨rfl, rfl⟩
          go_wp2_with fail
          refine (door_first _ _ _).mono ?_
          rintro e w' ⟨rfl, rfl⟩
          have hB2 : Below w.heap.size w ((w.alloc (.cells #[.string m] 42)).alloc (.cells #[.string (S (len - 1)), cause w.heap.size] 37)) := hB1.alloc (by simp) _
          have hPE0 : Hid (PE ((w.alloc (.cells #[.string m] 42)).alloc (.cells #[.string (S (len - 1)), cause w.heap.size] 37)) (w.heap.size + 1) (path S len (len - 1)) (cause w.heap.size)) := by
            rw [path_last S len hpos]
            have := pe_new (w.alloc (.cells #[.string m] 42)) (S (len - 1)) (cause w.heap.size)
            rwa [World.size_alloc] at this
          clear hcL hB1
          go_wp2
          go_loopw [9, 10] (fun e i wr => ∃ k : Nat, k < len ∧ i = .int .i64 ((k : Int) - 1) ∧ e = perr (w.heap.size + 1) ∧ Hid (PE wr (w.heap.size + 1) (path S len k) (cause w.heap.size)) ∧ Below w.heap.size w wr) (fun _ i _ => (intOf i + 1).toNat)
          case atStart => exact ⟨len - 1, by omega, by go_num, by simp, hPE0, hB2⟩
          case round =>
            obtain ⟨k, hk, rfl, rfl, HP, hbel⟩ := hrel
            by_cases hk0 : (0 : Int) ≤ (k : Int) - 1
            · obtain ⟨j, rfl⟩ : ∃ j : Nat, k = j + 1 := ⟨k - 1, by omega⟩
              have e1 : (((j + 1 : Nat) : Int) - 1) = (j : Int) := by omega
              rw [e1]
              have hc := hcl.out wr j (by omega) hbel
              have hd : Hid (Calls Trym.prog 9 #[.string (S j), perr (w.heap.size + 1)] wr fun e w' => e = .returned (perr (w.heap.size + 1)) ∧ w' = wr.setCell ⟨w.heap.size + 1, 0, none⟩ (.string (path S len j))) := by
                have h1 := path_size S m.size len (j + 1) hk
                have h2 := path_size S m.size len j (by omega)
                have h3 := HN.out (j + 1) hk
                have := door_any (S j) (path S len (j + 1)) (w.heap.size + 1) _ wr HP.out (path_pos S len (j + 1) h3) (by unfold path at h2; rw [ByteArray.size_append] at h2; omega)
                rw [sep_path S len (j + 1) h3, path_step S len j hk] at this
                exact this
              clear e1
              go_wp2_with (go_at_call 9; refine hd.out.mono ?_; rintro e w' ⟨rfl, rfl⟩)
              go_roundw
              case rel => exact ⟨j, by omega, by go_num, rfl, HP.out.set _, hbel.setCell (by simp) _⟩
              case measure => simp [intOf]
            · obtain rfl : k = 0 := by omega
              have hc0 : wr.cell? ⟨b, off, none⟩ = some (.string (S 0)) := by simpa using hcl.out wr 0 hpos hbel
              go_wp2
              have HP' : Hid (PE wr (w.heap.size + 1) (want S len) (cause w.heap.size)) := by rw [want_all]; exact HP
              clear hc0 HP hPE0 hB2 hk hk0
              go_loop [11, 12] (fun s i => ∃ k : Nat, 1 ≤ k ∧ k ≤ len ∧ i = .int .i64 k ∧ s = .string (want S k)) (fun _ i => len - (intOf i).toNat)
              case atStart => exact ⟨1, by omega, by omega, rfl, by rw [want_one]⟩
              case round =>
                obtain ⟨k, hk1, hk, rfl, rfl⟩ := hrel
                by_cases hlt : k < len
                · have hc := hcl.out wr k hlt hbel
                  have hs0 : 0 < (S k).size := HN.out k hlt
                  have hz1 : ((want S k).size : Int) ≤ 1048576 := by have := want_size S m.size k (by omega); have := tot_le S m.size k len hk; omega
                  have hz2 : ((S k).size : Int) ≤ 1048576 := by have := tot_le S m.size (k + 1) len hlt; simp only [tot] at this; omega
                  by_cases hb0 : (S k)[0] = 91
                  · have hbb := byte_eq hs0 hb0
                    have HW : Hid (want S k ++ S k = want S (k + 1)) := by
                      have := want_step S k (by omega)
                      rwa [sep_bracket _ hs0 hb0, empty_app] at this
                    clear hb0
                    go_wp2
                    go_round
                    case rel => exact ⟨k + 1, by omega, by omega, by go_num, by rw [← HW.out]⟩
                    case measure => simp [intOf]; omega
                  · have hbb := byte_ne hs0 hb0
                    have HW : Hid (want S k ++ (dot ++ S k) = want S (k + 1)) := by
                      have := want_step S k (by omega)
                      rwa [sep_dot _ hs0 hb0] at this
                    clear hb0
                    go_wp2
                    go_round
                    case rel => exact ⟨k + 1, by omega, by omega, by go_num, by rw [← HW.out]; rfl⟩
                    case measure => simp [intOf]; omega
                · obtain rfl : len = k := by omega
                  have hp0 := HP'.out.c0
                  have hp1 := HP'.out.c1
                  go_wp2_with fail
                  refine (pathOf _ _ wr hp0).mono ?_
                  rintro e w' ⟨rfl, rfl⟩
                  go_wp2_with fail
                  refine (causeOf _ _ wr hp1).mono ?_
                  rintro e w' ⟨rfl, rfl⟩
                  go_wp2_with fail
                  refine (sameErr _ wr).mono ?_
                  rintro e w' ⟨rfl, rfl⟩
                  go_wp2
                  go_ret
                  exact ⟨by simp, hbel⟩

end Go.Proofs.Qxb6608536aMods
