/-
  SEAT b6605952aM: THE TWO LAWS (3, 4), walked.
-/
import Derived.Test.Qxb6605952aModsEq
import Derived.Deep.QuietTactic
import Derived.BigQuiet
import Derived.LaidEql
namespace Go.Proofs.Qxb6605952aMods
open Go.RowKit

theorem added_zero {d n s : Int} (h : d = 1000000000 * s + n) (h0 : 0 ≤ n) (h1 : n ≤ 999999999) (hd : d = 0) : n = 0 ∧ s = 0 := by omega
theorem added_not {d n s : Int} (h : d = 1000000000 * s + n) (hd : ¬ d = 0) : ¬ (n = 0 ∧ s = 0) := by omega

theorem grown_drewN {a b : World} (h : Grown a b) (n : Nat) : Grown a (b.drewN n) := h

set_option maxHeartbeats 1000000 in
set_option maxRecDepth 100000 in
theorem law1 (d : Int) (hd : -9223372036854775808 ≤ d ∧ d ≤ 9223372036854775807) (w : World) :
    Calls Trym.prog 3 #[.int .i64 d] w fun e w' => e = .returned (.bool true) ∧ Grown w w' := by
  have HA : Hid (∀ w, Calls Trym.prog 5 #[.agg #[.int .u64 0, .int .i64 0, .pointer none], .int .i64 d] w fun e w' => Added d w e w') := add_any d hd
  by_cases h0 : d = 0
  · subst h0
    go_enter Trym.func3, Trym.ntmps3
    go_wp2_with fail
    refine (HA.out _).mono ?_
    rintro e w1 ⟨n, s, rfl, hn0, hn1, hds, hs0, hs1, hg1⟩
    obtain ⟨rfl, rfl⟩ := added_zero hds hn0 hn1 rfl
    clear hds
    go_wp2_with fail
    refine (door_yes _).mono ?_
    rintro e w2 ⟨rfl, rfl⟩
    unfold left3
    go_wp2
    go_ret
    exact ⟨rfl, by go_grown⟩
  · have hb : (d == 0) = false := by simpa using h0
    go_enter Trym.func3, Trym.ntmps3
    go_wp2_with fail
    refine (HA.out _).mono ?_
    rintro e w1 ⟨n, s, rfl, hn0, hn1, hds, hs0, hs1, hg1⟩
    have hne : Hid (¬ (n = 0 ∧ s = 0)) := added_not hds h0
    clear hds h0
    go_wp2_with fail
    refine (door_no n s _ hne.out).mono ?_
    rintro e w2 ⟨rfl, rfl⟩
    have he := eq_tm n s
    have hgu := guard_tm
    unfold left3
    go_wp2
    go_quiet (fail)
    go_wp2
    go_ret
    exact ⟨by simp, grown_drewN (by go_grown) _⟩

theorem ptr_apart {P : Program} {t te : TypeId} {j : TypeInfo} (hp : P.underlying t = some (.pointer te)) (hte : P.info? te = some j) (hsz : j.size ≠ 0) {a b : Addr} {ca cb : Array Value} {ta tb : TypeId} (w : World) (hne : a ≠ b)
    (ha : w.heap[a.block]? = some (.cells ca ta (0, 0))) (hb : w.heap[b.block]? = some (.cells cb tb (0, 0))) : (binOp .eql t (.pointer (some a)) (.pointer (some b))).run P w = .ok (.bool false) w := by
  have h : ∀ d, (Op.equalIn (d + 1) t (.pointer (some a)) (.pointer (some b))).run P w = .ok false w := fun d => by
    simp [Op.equalIn, run_underlying hp, typeInfo, sizeOf, hte, hsz, run_sameAddr_other w hne ha hb]
  simp only [binOp]
  simp [Op.equal, Op.maxDepth, h 9999]

/-- The two pointers that two calls give lie in two blocks. -/
theorem two_apart (n s : Int) (w : World) : (binOp .eql 28 (.pointer (some ⟨w.heap.size + 1 + 1, 0, none⟩)) (.pointer (some ⟨w.heap.size + 1 + 1 + 1 + 1 + 1, 0, none⟩))).run Trym.prog (left3 n s (left3 n s (w.alloc (.cells #[.int .u64 n, .int .i64 s, .pointer none] 25)))) =
    .ok (.bool false) (left3 n s (left3 n s (w.alloc (.cells #[.int .u64 n, .int .i64 s, .pointer none] 25)))) := by
  have hi : (Trym.prog.info? 25).map (·.size) = some 3 := by kernel_rfl
  obtain ⟨j, hj, hs⟩ := Option.map_eq_some_iff.1 hi
  generalize ho : (Obj.cells #[.int .u64 n, .int .i64 s, .pointer none] 25 : Obj) = o
  have e : left3 n s (left3 n s (w.alloc o)) = ((((((w.alloc o).alloc o).alloc o).alloc o).alloc o).alloc o).alloc o := by unfold left3; rw [ho]
  rw [e]
  have hsz : ∀ (w : World), (w.alloc o).heap.size = w.heap.size + 1 := fun w => World.size_alloc w o
  refine ptr_apart (ca := #[.int .u64 n, .int .i64 s, .pointer none]) (cb := #[.int .u64 n, .int .i64 s, .pointer none]) (ta := 25) (tb := 25) Trym.underlying28 hj (by omega) _ (by simp) ?_ ?_
  · show _ = some (Obj.cells #[.int .u64 n, .int .i64 s, .pointer none] 25)
    rw [ho, Below.heap_alloc _ _ _ (by simp only [hsz]; omega), Below.heap_alloc _ _ _ (by simp only [hsz]; omega), Below.heap_alloc _ _ _ (by simp only [hsz]; omega), Below.heap_alloc _ _ _ (by simp only [hsz]; omega)]
    have := heap_alloc_new ((w.alloc o).alloc o) o
    rwa [hsz, hsz] at this
  · show _ = some (Obj.cells #[.int .u64 n, .int .i64 s, .pointer none] 25)
    rw [ho, Below.heap_alloc _ _ _ (by simp only [hsz]; omega)]
    have := heap_alloc_new (((((w.alloc o).alloc o).alloc o).alloc o).alloc o) o
    rwa [hsz, hsz, hsz, hsz, hsz] at this

set_option maxHeartbeats 1000000 in
set_option maxRecDepth 100000 in
theorem law2 (d : Int) (hd : -9223372036854775808 ≤ d ∧ d ≤ 9223372036854775807) (w : World) :
    Calls Trym.prog 4 #[.int .i64 d] w fun e w' => e = .returned (.bool true) ∧ Grown w w' := by
  have HA : Hid (∀ w, Calls Trym.prog 5 #[.agg #[.int .u64 0, .int .i64 0, .pointer none], .int .i64 d] w fun e w' => Added d w e w') := add_any d hd
  by_cases h0 : d = 0
  · subst h0
    go_enter Trym.func4, Trym.ntmps4
    go_wp2_with fail
    refine (HA.out _).mono ?_
    rintro e w1 ⟨n, s, rfl, hn0, hn1, hds, hs0, hs1, hg1⟩
    obtain ⟨rfl, rfl⟩ := added_zero hds hn0 hn1 rfl
    clear hds
    go_wp2_with fail
    refine (door_yes _).mono ?_
    rintro e w2 ⟨rfl, rfl⟩
    unfold left3
    go_wp2_with fail
    refine (door_yes _).mono ?_
    rintro e w2 ⟨rfl, rfl⟩
    unfold left3
    go_wp2
    go_ret
    exact ⟨rfl, by go_grown⟩
  · have hb : (d == 0) = false := by simpa using h0
    go_enter Trym.func4, Trym.ntmps4
    go_wp2_with fail
    refine (HA.out _).mono ?_
    rintro e w1 ⟨n, s, rfl, hn0, hn1, hds, hs0, hs1, hg1⟩
    have hne : Hid (¬ (n = 0 ∧ s = 0)) := added_not hds h0
    clear hds h0
    go_wp2_with fail
    refine (door_no n s _ hne.out).mono ?_
    rintro e w2 ⟨rfl, rfl⟩
    unfold left3
    go_wp2_with fail
    refine (door_no n s _ hne.out).mono ?_
    rintro e w2 ⟨rfl, rfl⟩
    have he := eq_tm n s
    have hgu := guard_tm
    have hpt := two_apart n s w1
    unfold left3 at *
    go_wp2
    go_quiet (fail)
    go_wp2
    go_ret
    exact ⟨by simp, grown_drewN (by go_grown) _⟩

end Go.Proofs.Qxb6605952aMods
