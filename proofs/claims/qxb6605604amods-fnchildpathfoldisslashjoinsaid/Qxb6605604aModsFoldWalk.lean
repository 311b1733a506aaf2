/-
  THE LAW FnChildPathFoldIsSlashJoin (4), walked.
-/
import Derived.Test.Qxb6605604aModsFold
import Derived.LoopN
namespace Go.Proofs.Qxb6605604aMods
open Go.RowKit

theorem Trym.info9 : (Trym.prog.info? 9).map (fun i => (i.zero, i.size, i.bytes)) = some (some (.string ByteArray.empty), 1, 16) := by kernel_rfl

theorem below_since {B : Nat} {w w' : World} (h : w.Since B w') : Below B w w' := ⟨h.os, h.tape, h.output, h.size, h.block⟩

/-- The copy, when k of its cells are filled. -/
def part (S : Nat → ByteArray) (k : Nat) : Nat → Value := fun j => if j < k then .string (S j) else .string ByteArray.empty

theorem part_succ (S : Nat → ByteArray) (k j : Nat) : (if j = k then Value.string (S k) else part S k j) = part S (k + 1) j := by
  unfold part
  by_cases e : j = k
  · subst e; rw [if_pos rfl, if_pos (by omega)]
  · rw [if_neg e]
    by_cases h : j < k
    · rw [if_pos h, if_pos (by omega)]
    · rw [if_neg h, if_neg (by omega)]

set_option maxHeartbeats 1000000 in
theorem fold_some (x : Addr) (b off len cap : Nat) (S : Nat → ByteArray) (w : World) (h : Strs w (some x) b off len S) (hpos : 0 < len) :
    Calls Trym.prog 4 #[.slice (some x) len cap] w fun e w' => e = .returned (.bool true) ∧ Below w.heap.size w w' := by
  have hb := h.bound
  have H : Hid (Strs w (some x) b off len S) := h
  clear h
  by_cases hbig : 1024 < (len : Int)
  · go_enter Trym.func4, Trym.ntmps4
    go_wp2_with (go_at_call 11; refine (bytes_any _ _ _ _ _ _ _ H.out).mono ?_; rintro e w' ⟨⟨t, rfl⟩, rfl⟩)
    all_goals
      go_ret
      exact ⟨rfl, Below.refl _ _⟩
  · have hb' : decide (1024 < (len : Int)) = false := by simpa using hbig
    go_enter Trym.func4, Trym.ntmps4
    go_wp2_with (go_at_call 11; refine (bytes_any _ _ _ _ _ _ _ H.out).mono ?_; rintro e w' ⟨⟨t, rfl⟩, rfl⟩)
    · go_ret
      exact ⟨rfl, Below.refl _ _⟩
    go_loop [3, 4] (fun z i => ∃ (k : Nat), k ≤ len ∧ i = .int .i64 k ∧ z = .int .i64 (16 * len + tot S k) ∧ (0 < k → 16 * len + tot S k ≤ 131072)) (fun _ i => len - (intOf i).toNat)
    case atStart => exact ⟨0, Nat.zero_le _, rfl, by go_num, by omega⟩
    case round =>
      obtain ⟨k, hk, rfl, rfl, hn1⟩ := hrel
      by_cases hlt : k < len
      · obtain rfl : x = ⟨b, off, none⟩ := by simpa using H.out.at_ (by omega)
        have hc := H.out.cell k hlt
        have hz := H.out.small k hlt
        have hn2 : tot S k ≤ 131072 := by
          by_cases e : k = 0
          · subst e; simp [tot]
          · have := hn1 (by omega); omega
        have hn3 : (tot S k : Int) ≤ 131072 := by omega
        clear hn1
        by_cases hs : 131072 < ((S k).size : Int)
        · go_wp2
          go_ret
          exact ⟨rfl, Below.refl _ _⟩
        · by_cases hs2 : 131072 < 16 * (len : Int) + (tot S k : Int) + ((S k).size : Int)
          · go_wp2
            go_ret
            exact ⟨rfl, Below.refl _ _⟩
          · go_wp2
            go_round
            case rel => exact ⟨k + 1, by omega, by go_num, by simp only [tot]; go_num, fun _ => by simp only [tot]; omega⟩
            case measure => simp [intOf]; omega
      · obtain rfl : len = k := by omega
        obtain rfl : x = ⟨b, off, none⟩ := by simpa using H.out.at_ hpos
        have hc0 : w.cell? ⟨b, off, none⟩ = some (.string (S 0)) := by simpa using H.out.cell 0 hpos
        have hg : decide (0 < (len : Int)) = true := by simpa using hpos
        have hbb : b < w.heap.size := World.block_lt_of_cell? _ _ hc0
        have hT := hn1 hpos
        clear hlt hk hn1
        by_cases hS : (S 0).size = 0
        · have hp : (S 0).toList.isEmpty = true := by rw [isEmpty_size]; simpa using hS
          clear hS
          go_wp2
          go_ret
          exact ⟨rfl, Below.refl _ _⟩
        have hp : (S 0).toList.isEmpty = false := by rw [isEmpty_size]; simpa using hS
        have hmk := run_make_row' (P := Trym.prog) 25 9 (.string ByteArray.empty) 16 Trym.underlying25 Trym.info9 rfl .i64 .i64 len (by omega) (by omega)
        go_wp2
        go_loopw [6] (fun i wr => ∃ k : Nat, k ≤ len ∧ i = .int .i64 k ∧ w.Since w.heap.size wr ∧ wr.rowIs w.heap.size 9 len (part S k)) (fun i _ => len - (intOf i).toNat)
        case atStart => exact ⟨0, Nat.zero_le _, rfl, (World.Since.refl _ _).alloc (Nat.le_refl _) _, (World.rowIs_made w _ len 9).congr (fun j _ => by simp [part])⟩
        case round =>
          obtain ⟨k, hk, rfl, hsi, hrow⟩ := hrel
          by_cases hlt : k < len
          · have hc1 : wr.cell? ⟨b, off + k, none⟩ = some (.string (S k)) := by rw [hsi.cell (a := ⟨b, off + k, none⟩) hbb]; exact H.out.cell k hlt
            have hc2 := hrow.cell hlt
            have hc3 := hrow.frozen k
            have R : Hid (w.Since w.heap.size (wr.setCell ⟨w.heap.size, k, none⟩ (.string (S k))) ∧ (wr.setCell ⟨w.heap.size, k, none⟩ (.string (S k))).rowIs w.heap.size 9 len (part S (k + 1))) :=
              ⟨hsi.setCell (Nat.le_refl _) _, (hrow.set k _).congr (fun j _ => part_succ S k j)⟩
            clear hmk hsi hrow
            go_wp2
            go_roundw
            case rel => exact ⟨k + 1, by omega, by go_num, R.out.1, R.out.2⟩
            case measure => simp [intOf]; omega
          · obtain rfl : len = k := by omega
            have hfull : Hid (∀ k, k < len → wr.cell? ⟨w.heap.size, k, none⟩ = some (.string (S k))) := fun k hk => by rw [hrow.cell hk]; simp [part, hk]
            have hbel : Below w.heap.size w wr := below_since hsi
            clear hmk hsi hrow hk hlt
            go_wp2
            go_loop [7, 8] (fun s i => ∃ k : Nat, k ≤ len ∧ i = .int .i64 k ∧ s = .string (pathTo S k)) (fun _ i => len - (intOf i).toNat)
            case atStart => exact ⟨0, Nat.zero_le _, rfl, rfl⟩
            case round =>
              obtain ⟨k, hk, rfl, rfl⟩ := hrel
              by_cases hlt : k < len
              · have hc := hfull.out k hlt
                have hst : Hid (∀ w : World, Calls Trym.prog 9 #[.string (pathTo S k), .string (S k)] w fun e w' => e = .returned (.string (pathTo S (k + 1))) ∧ w = w') :=
                  step S (by omega) k (by have := tot_le S (k + 1) len hlt; omega)
                go_wp2_with (go_at_call 9; refine (hst.out _).mono ?_; rintro e w' ⟨rfl, rfl⟩)
                go_round
                case rel => exact ⟨k + 1, by omega, by go_num, rfl⟩
                case measure => simp [intOf]; omega
              · obtain rfl : len = k := by omega
                clear hk hlt
                go_wp2
                go_loop [9, 10] (fun s i => ∃ k : Nat, k ≤ len ∧ i = .int .i64 k ∧ s = .string (pathTo S k)) (fun _ i => len - (intOf i).toNat)
                case atStart => exact ⟨0, Nat.zero_le _, rfl, rfl⟩
                case round =>
                  obtain ⟨k, hk, rfl, rfl⟩ := hrel
                  by_cases hlt : k < len
                  · have hc := hfull.out k hlt
                    have hz : ((pathTo S k).size : Int) ≤ 1048576 := by have := tot_le S k len hk; have := pathTo_size S k; omega
                    have hz2 : ((S k).size : Int) ≤ 1048576 := by have := tot_le S (k + 1) len hlt; simp only [tot] at this; omega
                    by_cases hk0 : k = 0
                    · subst hk0
                      have e : pathTo S 0 ++ S 0 = pathTo S 1 := empty_append _
                      have he := run_string_add_sum (P := Trym.prog) wr (pathTo S 0) (S 0) (by omega)
                      rw [e] at he
                      clear e
                      go_wp2
                      go_round
                      case rel => exact ⟨1, by omega, by go_num, rfl⟩
                      case measure => simp [intOf]; omega
                    · obtain ⟨j, rfl⟩ : ∃ j, k = j + 1 := ⟨k - 1, by omega⟩
                      go_wp2
                      go_round
                      case rel => exact ⟨j + 2, by omega, by go_num, rfl⟩
                      case measure => simp [intOf]; omega
                  · obtain rfl : len = k := by omega
                    go_wp2
                    go_ret
                    exact ⟨by simp, hbel⟩

set_option maxHeartbeats 1000000 in
theorem fold_empty (a : Option Addr) (cap : Nat) (w : World) :
    Calls Trym.prog 4 #[.slice a 0 cap] w fun e w' => e = .returned (.bool true) ∧ Below w.heap.size w w' := by
  have H : Strs w a 0 0 0 (fun _ => ByteArray.empty) := ⟨by omega, by omega, by omega, by omega⟩
  have hb : Hid (Calls Trym.prog 11 #[.slice a 0 cap] w fun e w' => EndsBool e ∧ w = w') := bytes_any a 0 0 0 cap _ w H
  clear H
  have hmk : ∀ w : World, (Instr.makeSlice 25 (.int .i64 0) (.int .i64 0)).run Trym.prog w = .ok (.slice (some ⟨w.heap.size, 0, none⟩) 0 0) (w.alloc (.cells (madeCells #[.string ByteArray.empty] 0) 9)) :=
    run_make_row' (P := Trym.prog) 25 9 (.string ByteArray.empty) 16 Trym.underlying25 Trym.info9 rfl .i64 .i64 0 (by omega) (by omega)
  cases a with
  | none =>
    go_enter Trym.func4, Trym.ntmps4
    go_wp2_with (go_at_call 11; refine hb.out.mono ?_; rintro e w' ⟨⟨t, rfl⟩, rfl⟩)
    · go_ret
      exact ⟨rfl, Below.refl _ _⟩
    refine wp_loop_rounds 1 ?_; rw [rounds_succ]; go_wp2
    refine wp_loop_rounds 1 ?_; rw [rounds_succ]; go_wp2
    refine wp_loop_rounds 1 ?_; rw [rounds_succ]; go_wp2
    go_ret
    exact ⟨rfl, Below.refl _ _⟩
  | some x =>
    go_enter Trym.func4, Trym.ntmps4
    go_wp2_with (go_at_call 11; refine hb.out.mono ?_; rintro e w' ⟨⟨t, rfl⟩, rfl⟩)
    · go_ret
      exact ⟨rfl, Below.refl _ _⟩
    refine wp_loop_rounds 1 ?_; rw [rounds_succ]; go_wp2
    refine wp_loop_rounds 1 ?_; rw [rounds_succ]; go_wp2
    refine wp_loop_rounds 1 ?_; rw [rounds_succ]; go_wp2
    refine wp_loop_rounds 1 ?_; rw [rounds_succ]; go_wp2
    go_ret
    exact ⟨rfl, (Below.refl _ _).alloc (Nat.le_refl _) _⟩

end Go.Proofs.Qxb6605604aMods
