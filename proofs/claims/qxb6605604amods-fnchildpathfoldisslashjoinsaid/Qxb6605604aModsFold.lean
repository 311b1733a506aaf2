/-
  THE FOLD: zzBytes (11) and the law FnChildPathFoldIsSlashJoin (4), walked.
-/
import Derived.Test.Qxb6605604aModsPath
import Derived.Deep.OwnRows
namespace Go.Proofs.Qxb6605604aMods
open Go.RowKit

/-! ### Plain -/
/-- The lengths of the first k strings, added up. -/
def tot (S : Nat → ByteArray) : Nat → Nat
  | 0 => 0
  | k + 1 => tot S k + (S k).size

/-- The first k names joined by the separator. -/
def pathTo (S : Nat → ByteArray) : Nat → ByteArray
  | 0 => ⟨#[]⟩
  | 1 => S 0
  | k + 2 => pathTo S (k + 1) ++ slash ++ S (k + 1)

theorem pathTo_size (S : Nat → ByteArray) (k : Nat) : (pathTo S k).size ≤ tot S k + k := by
  induction k with
  | zero => exact Nat.le_refl 0
  | succ k ih =>
    cases k with
    | zero => simp [pathTo, tot]
    | succ k => 
      simp only [pathTo, join_size, tot] at *
      omega

theorem pathTo_pos (S : Nat → ByteArray) (h : 0 < (S 0).size) (k : Nat) (hk : 0 < k) : 0 < (pathTo S k).size := by
  cases k with
  | zero => omega
  | succ k =>
    cases k with
    | zero => simpa [pathTo] using h
    | succ k => simp only [pathTo, join_size]; omega

theorem tot_le (S : Nat → ByteArray) (k n : Nat) (h : k ≤ n) : tot S k ≤ tot S n := by
  induction n with
  | zero => obtain rfl : k = 0 := by omega
            exact Nat.le_refl _
  | succ n ih =>
    by_cases e : k = n + 1
    · subst e; exact Nat.le_refl _
    · have := ih (by omega); simp only [tot]; omega

theorem empty_append (s : ByteArray) : (⟨#[]⟩ : ByteArray) ++ s = s := by
  apply ByteArray.ext
  simp

/-- WHAT THE WALK IS TOLD OF A SLICE OF STRINGS THAT CAME IN. -/
structure Strs (w : World) (a : Option Addr) (b off len : Nat) (S : Nat → ByteArray) : Prop where
  bound : len ≤ 9223372036854775807
  at_ : 0 < len → a = some ⟨b, off, none⟩
  cell : ∀ i, i < len → w.cell? ⟨b, off + i, none⟩ = some (.string (S i))
  small : ∀ i, i < len → (S i).size ≤ 9223372036854775807

/-- It ends in a bool, whichever. -/
def EndsBool (e : Ending) : Prop := ∃ t : Bool, e = .returned (.bool t)

set_option maxHeartbeats 400000 in
theorem bytes_any (a : Option Addr) (b off len cap : Nat) (S : Nat → ByteArray) (w : World) (h : Strs w a b off len S) :
    Calls Trym.prog 11 #[.slice a len cap] w fun e w' => EndsBool e ∧ w = w' := by
  have h1 := h.bound
  have H : Hid (Strs w a b off len S) := h
  clear h
  by_cases hbig : 1048576 < (len : Int)
  · go_enter Trym.func11, Trym.ntmps11
    go_wp2
    go_ret
    exact ⟨⟨false, rfl⟩, rfl⟩
  · have hb' : decide (1048576 < (len : Int)) = false := by simpa using hbig
    go_enter Trym.func11, Trym.ntmps11
    go_wp2
    go_loop [3, 4] (fun z i => ∃ (k : Nat) (n : Int), k ≤ len ∧ i = .int .i64 k ∧ z = .int .i64 n ∧ 0 ≤ n ∧ n ≤ 1048576) (fun _ i => len - (intOf i).toNat)
    case atStart => exact ⟨0, len, Nat.zero_le _, rfl, rfl, by omega, by omega⟩
    case round =>
      obtain ⟨k, n, hk, rfl, rfl, hn0, hn1⟩ := hrel
      by_cases hlt : k < len
      · obtain rfl := H.out.at_ (by omega)
        have hc := H.out.cell k hlt
        have hz := H.out.small k hlt
        by_cases hs : 1048576 < ((S k).size : Int)
        · go_wp2
          go_ret
          exact ⟨⟨false, rfl⟩, rfl⟩
        · by_cases hs2 : 1048576 < n + ((S k).size : Int)
          · go_wp2
            go_ret
            exact ⟨⟨false, rfl⟩, rfl⟩
          · go_wp2
            go_round
            case rel => exact ⟨k + 1, n + ((S k).size : Int), by omega, by go_num, by go_num, by omega, by omega⟩
            case measure => simp [intOf]; omega
      · go_wp2
        go_ret
        exact ⟨⟨true, rfl⟩, rfl⟩

/-- One step down: what the door gives at the first k names' path. -/
theorem step (S : Nat → ByteArray) (h0 : 0 < (S 0).size) (k : Nat) (hs : tot S (k + 1) + k ≤ 1048576) (w : World) :
    Calls Trym.prog 9 #[.string (pathTo S k), .string (S k)] w fun e w' => e = .returned (.string (pathTo S (k + 1))) ∧ w = w' := by
  cases k with
  | zero => exact (door_top _ _ _ (by rw [isEmpty_size]; rfl)).mono fun e w' ⟨he, hw⟩ => ⟨he, hw.symm⟩
  | succ k =>
    have h1 := pathTo_pos S h0 (k + 1) (by omega)
    have h2 := pathTo_size S (k + 1)
    simp only [tot] at hs h2
    refine (door_deep _ _ _ (by rw [isEmpty_size]; exact decide_eq_false (by omega)) (by omega)).mono fun e w' ⟨he, hw⟩ => ⟨he, hw.symm⟩

end Go.Proofs.Qxb6605604aMods
