/-
  SEAT b6605952aM: nsec (8), addSec (9), Add (5), IsZero (13), timeOrNull (11), ZZtimeOrNull (6), walked.
-/
import Derived.Test.Qxb6605952aModsRows
import Derived.Test.Qxb6605952aModsBits
import Derived.WalkKit
import Derived.WalkSpells
import Derived.WalkLawsBesides
import Derived.Handy
namespace Go.Proofs.Qxb6605952aMods
open Go.RowKit

theorem grown_trans {a b c : World} (h : Grown a b) (k : Grown b c) : Grown a c :=
  ⟨World.keptBut_trans h.1 k.1, fun x => (k.2.1 x).trans (h.2.1 x), Nat.le_trans h.2.2 k.2.2⟩

set_option maxHeartbeats 400000 in
theorem nsec_zero (b : Nat) (w : World) (h0 : w.cell? ⟨b, 0, none⟩ = some (.int .u64 0)) :
    Calls Trym.prog 8 #[.pointer (some ⟨b, 0, none⟩)] w fun e w' => e = .returned (.int .i32 0) ∧ w = w' := by
  have hz : bits .and .u64 0 1073741823 = 0 := and_mask 0 (by decide) (by decide)
  go_enter Trym.func8, Trym.ntmps8
  go_wp2
  go_ret
  exact ⟨rfl, rfl⟩

attribute [local go_sem] and_top in
set_option maxHeartbeats 400000 in
theorem addSec (b : Nat) (n s : Int) (w : World) (h0 : w.cell? ⟨b, 0, none⟩ = some (.int .u64 n)) (h1 : w.cell? ⟨b, 1, none⟩ = some (.int .i64 0)) (hf : w.frozen? ⟨b, 1, none⟩ = false) (hn0 : 0 ≤ n) (hn1 : n ≤ 999999999) (hs : -9223372038 ≤ s ∧ s ≤ 9223372037) :
    Calls Trym.prog 9 #[.pointer (some ⟨b, 0, none⟩), .int .i64 s] w fun e w' => e = .returned (.tuple #[]) ∧ w' = w.setCell ⟨b, 1, none⟩ (.int .i64 s) := by
  obtain ⟨hs0, hs1⟩ := hs
  go_enter Trym.func9, Trym.ntmps9
  go_wp2
  go_end0
  exact ⟨rfl, rfl⟩

/-- What 'time.Time{}.Add(d)' comes to: n nanoseconds, s seconds. -/
def Added (d : Int) (w : World) (e : Ending) (w' : World) : Prop :=
  ∃ n s : Int, e = .returned (.agg #[.int .u64 n, .int .i64 s, .pointer none]) ∧ 0 ≤ n ∧ n ≤ 999999999 ∧ d = 1000000000 * s + n ∧ -9223372038 ≤ s ∧ s ≤ 9223372037 ∧ Grown w w'

set_option maxHeartbeats 1000000 in
set_option maxRecDepth 100000 in
theorem add_any (d : Int) (hd : -9223372036854775808 ≤ d ∧ d ≤ 9223372036854775807) (w : World) :
    Calls Trym.prog 5 #[.agg #[.int .u64 0, .int .i64 0, .pointer none], .int .i64 d] w fun e w' => Added d w e w' := by
  obtain ⟨p1, p2, p3, p4, p5, p6, p7⟩ := parts d hd
  obtain ⟨hd0, hd1⟩ := hd
  generalize hq : d.tdiv 1000000000 = q at *
  generalize hr : d.tmod 1000000000 = r at *
  have P : Hid (d = 1000000000 * q + r ∧ (0 ≤ d → 0 ≤ r) ∧ (d ≤ 0 → r ≤ 0)) := ⟨p1, p6, p7⟩
  clear p1 p6 p7
  have hz := andNot_zero
  by_cases h : r < 0
  · have ho := or_zero (r + 1000000000) (by omega) (by omega)
    have ht := and_top (r + 1000000000) (by omega) (by omega)
    go_enter Trym.func5, Trym.ntmps5
    go_wp2_with fail
    refine (nsec_zero w.heap.size _ (by simp)).mono ?_
    rintro e w' ⟨rfl, rfl⟩
    go_wp2_with fail
    refine (addSec w.heap.size (r + 1000000000) (q - 1) _ (by simp) (by simp) (by simp) (by omega) (by omega) (by omega)).mono ?_
    rintro e w' ⟨rfl, rfl⟩
    go_wp2_with fail
    refine bodyPost_ret (v := .agg #[.int .u64 (r + 1000000000), .int .i64 (q - 1), .pointer none]) (by simp [results, Trym.results5, go_sem]) rfl ⟨_, _, rfl, by omega, by omega, by have := P.out.1; omega, by omega, by omega, ?_⟩
    go_grown
  · have ho := or_zero r (by omega) (by omega)
    have ht := and_top r (by omega) (by omega)
    go_enter Trym.func5, Trym.ntmps5
    go_wp2_with fail
    refine (nsec_zero w.heap.size _ (by simp)).mono ?_
    rintro e w' ⟨rfl, rfl⟩
    go_wp2_with fail
    refine (addSec w.heap.size r q _ (by simp) (by simp) (by simp) (by omega) (by omega) (by omega)).mono ?_
    rintro e w' ⟨rfl, rfl⟩
    go_wp2_with fail
    refine bodyPost_ret (v := .agg #[.int .u64 r, .int .i64 q, .pointer none]) (by simp [results, Trym.results5, go_sem]) rfl ⟨_, _, rfl, by omega, by omega, P.out.1, by omega, by omega, ?_⟩
    go_grown

/-- The value t of a time. -/
abbrev tm (n s : Int) : Value := .agg #[.int .u64 n, .int .i64 s, .pointer none]

set_option maxHeartbeats 400000 in
theorem isZero_yes (w : World) :
    Calls Trym.prog 13 #[tm 0 0] w fun e w' => e = .returned (.bool true) ∧ w' = w.alloc (.cells #[.int .u64 0, .int .i64 0, .pointer none] 25) := by
  go_enter Trym.func13, Trym.ntmps13
  go_wp2
  go_ret
  exact ⟨rfl, rfl⟩

set_option maxHeartbeats 400000 in
theorem isZero_no (n s : Int) (w : World) (h : ¬ (n = 0 ∧ s = 0)) :
    Calls Trym.prog 13 #[tm n s] w fun e w' => e = .returned (.bool false) ∧ w' = w.alloc (.cells #[.int .u64 n, .int .i64 s, .pointer none] 25) := by
  by_cases hn : n = 0
  · have hs : (s == 0) = false := by simp; omega
    subst hn
    clear h
    go_enter Trym.func13, Trym.ntmps13
    go_wp2
    go_ret
    exact ⟨rfl, rfl⟩
  · have hn' : (n == 0) = false := by simpa using hn
    clear h hn
    go_enter Trym.func13, Trym.ntmps13
    go_wp2
    go_ret
    exact ⟨rfl, rfl⟩

set_option maxHeartbeats 400000 in
theorem orNull_yes (w : World) : Calls Trym.prog 11 #[tm 0 0] w fun e w' => e = .returned (.pointer none) ∧ w' = (w.alloc (.cells #[.int .u64 0, .int .i64 0, .pointer none] 25)).alloc (.cells #[.int .u64 0, .int .i64 0, .pointer none] 25) := by
  go_enter Trym.func11, Trym.ntmps11
  go_wp2_with (go_at_call 13; refine (isZero_yes _).mono ?_; rintro e w' ⟨rfl, rfl⟩)
  go_ret
  exact ⟨rfl, rfl⟩

set_option maxHeartbeats 400000 in
theorem orNull_no (n s : Int) (w : World) (h : ¬ (n = 0 ∧ s = 0)) :
    Calls Trym.prog 11 #[tm n s] w fun e w' => e = .returned (.pointer (some ⟨w.heap.size, 0, none⟩)) ∧ w' = (w.alloc (.cells #[.int .u64 n, .int .i64 s, .pointer none] 25)).alloc (.cells #[.int .u64 n, .int .i64 s, .pointer none] 25) := by
  have H : Hid (¬ (n = 0 ∧ s = 0)) := h
  clear h
  go_enter Trym.func11, Trym.ntmps11
  go_wp2_with (go_at_call 13; refine (isZero_no n s _ H.out).mono ?_; rintro e w' ⟨rfl, rfl⟩)
  go_ret
  exact ⟨rfl, rfl⟩

/-- The blocks that one call of the door leaves at an instant that is not the zero one: its own box, timeOrNull's, IsZero's. -/
def left3 (n s : Int) (w : World) : World :=
  ((w.alloc (.cells #[.int .u64 n, .int .i64 s, .pointer none] 25)).alloc (.cells #[.int .u64 n, .int .i64 s, .pointer none] 25)).alloc (.cells #[.int .u64 n, .int .i64 s, .pointer none] 25)

set_option maxHeartbeats 400000 in
theorem door_yes (w : World) : Calls Trym.prog 6 #[tm 0 0] w fun e w' => e = .returned (.pointer none) ∧ w' = left3 0 0 w := by
  go_enter Trym.func6, Trym.ntmps6
  go_wp2_with (go_at_call 11; refine (orNull_yes _).mono ?_; rintro e w' ⟨rfl, rfl⟩)
  go_ret
  exact ⟨rfl, rfl⟩

set_option maxHeartbeats 400000 in
theorem door_no (n s : Int) (w : World) (h : ¬ (n = 0 ∧ s = 0)) :
    Calls Trym.prog 6 #[tm n s] w fun e w' => e = .returned (.pointer (some ⟨w.heap.size + 1, 0, none⟩)) ∧ w' = left3 n s w := by
  have H : Hid (¬ (n = 0 ∧ s = 0)) := h
  clear h
  go_enter Trym.func6, Trym.ntmps6
  go_wp2_with (go_at_call 11; refine (orNull_no n s _ H.out).mono ?_; rintro e w' ⟨rfl, rfl⟩)
  go_ret
  exact ⟨by simp, rfl⟩

end Go.Proofs.Qxb6605952aMods
