/-
  zzBytes (8), zzLastSlash (10).
-/
import Derived.Test.Qxb6605604aModsPath
namespace Go.Proofs.Qxb6605604aMods
open Go.RowKit

set_option maxHeartbeats 400000 in
theorem bytes_small (p q : ByteArray) (w : World) (hs : p.size + q.size ≤ 1048576) :
    Calls Trym.prog 8 #[.string p, .string q] w fun e w' => e = .returned (.bool true) ∧ w' = w := by
  have h1 : (p.size : Int) ≤ 1048576 := by omega
  have h2 : (q.size : Int) ≤ 1048576 := by omega
  have h3 : (p.size : Int) + (q.size : Int) ≤ 1048576 := by omega
  go_enter Trym.func8, Trym.ntmps8
  go_wp2
  go_ret
  exact ⟨rfl, rfl⟩

set_option maxHeartbeats 400000 in
theorem bytes_big (p q : ByteArray) (w : World) (hp : p.size ≤ maxLen) (hq : q.size ≤ maxLen) (hs : 1048576 < p.size + q.size) :
    Calls Trym.prog 8 #[.string p, .string q] w fun e w' => e = .returned (.bool false) ∧ w' = w := by
  unfold maxLen at hp hq
  by_cases h1 : 1048576 < (p.size : Int)
  · go_enter Trym.func8, Trym.ntmps8
    go_wp2
    go_ret
    exact ⟨rfl, rfl⟩
  · by_cases h2 : 1048576 < (q.size : Int)
    · go_enter Trym.func8, Trym.ntmps8
      go_wp2
      go_ret
      exact ⟨rfl, rfl⟩
    · have h3 : 1048576 < (p.size : Int) + (q.size : Int) := by omega
      go_enter Trym.func8, Trym.ntmps8
      go_wp2
      go_ret
      exact ⟨rfl, rfl⟩

theorem byte_ne {s : ByteArray} {k : Nat} (h : k < s.size) (hn : s[k] ≠ 47) : ((s[k].toNat : Int) == 47) = false := by
  rw [beq_eq_false_iff_ne]
  intro e
  exact hn (UInt8.toNat_inj.1 (by simpa using (by omega : s[k].toNat = 47)))
theorem byte_eq {s : ByteArray} {k : Nat} (h : k < s.size) (hn : s[k] = 47) : ((s[k].toNat : Int) == 47) = true := by
  rw [hn]; rfl

set_option maxHeartbeats 400000 in
theorem last_none (s : ByteArray) (w : World) (hs : s.size ≤ 4194304) (hno : ∀ k (h : k < s.size), s[k] ≠ 47) :
    Calls Trym.prog 10 #[.string s] w fun e w' => e = .returned (.int .i64 (-1)) ∧ w' = w := by
  have HN : Hid (∀ k (h : k < s.size), s[k] ≠ 47) := hno
  clear hno
  go_enter Trym.func10, Trym.ntmps10
  go_wp2
  go_loop [3] (fun i => ∃ k : Nat, k ≤ s.size ∧ i = .int .i64 ((k : Int) - 1)) (fun i => (intOf i + 1).toNat)
  case atStart => exact ⟨s.size, Nat.le_refl _, rfl⟩
  case round =>
    obtain ⟨k, hk, rfl⟩ := hrel
    by_cases hlt : (0 : Int) ≤ (k : Int) - 1
    · obtain ⟨j, rfl⟩ : ∃ j : Nat, k = j + 1 := ⟨k - 1, by omega⟩
      have hj : j < s.size := by omega
      have hb := byte_ne hj (HN.out j hj)
      have e : (((j + 1 : Nat) : Int) - 1) = (j : Int) := by omega
      rw [e]
      go_wp2
      go_round
      case rel => exact ⟨j, by omega, by go_num⟩
      case measure => simp [intOf]
    · go_wp2
      go_ret
      exact ⟨rfl, rfl⟩

set_option maxHeartbeats 400000 in
theorem last_at (s : ByteArray) (m : Nat) (w : World) (hs : s.size ≤ 4194304) (hm : m < s.size) (hat : s[m] = 47) (hno : ∀ k (h : k < s.size), m < k → s[k] ≠ 47) :
    Calls Trym.prog 10 #[.string s] w fun e w' => e = .returned (.int .i64 m) ∧ w' = w := by
  have HN : Hid (∀ k (h : k < s.size), m < k → s[k] ≠ 47) := hno
  have HA : Hid (s[m] = 47) := hat
  clear hno hat
  go_enter Trym.func10, Trym.ntmps10
  go_wp2
  go_loop [3] (fun i => ∃ k : Nat, k < s.size ∧ m ≤ k ∧ i = .int .i64 k) (fun i => (intOf i).toNat)
  case atStart => exact ⟨s.size - 1, by omega, by omega, by go_num⟩
  case round =>
    obtain ⟨k, hk, hmk, rfl⟩ := hrel
    by_cases hlt : m < k
    · have hb := byte_ne hk (HN.out k hk hlt)
      go_wp2
      go_round
      case rel => exact ⟨k - 1, by omega, by omega, by go_num⟩
      case measure => simp [intOf]; omega
    · obtain rfl : k = m := by omega
      have hb := byte_eq hk HA.out
      go_wp2
      go_ret
      exact ⟨rfl, rfl⟩

end Go.Proofs.Qxb6605604aMods
