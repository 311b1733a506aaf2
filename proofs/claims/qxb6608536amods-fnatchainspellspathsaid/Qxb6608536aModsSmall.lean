/-
  SEAT b6608536aM: THE CALLEES: zzBytes (11), errors.New (15), ZZnewCause (6), HasPrefix (19, 18), at (17), ZZat (9), ZZpathOf (12), ZZcauseOf (13), ZZsameError (14).
-/
import Derived.Test.Qxb6608536aModsRows
import Derived.Test.Qxb6608536aModsPlain
import Derived.WalkKit
import Derived.WalkSpells
import Derived.WalkLawsBesides
import Derived.LaidEql
namespace Go.Proofs.Qxb6608536aMods
open Go.RowKit

/-- WHAT THE WALK IS TOLD OF A SLICE OF STRINGS. -/
structure Strs (w : World) (a : Option Addr) (b off len : Nat) (S : Nat → ByteArray) : Prop where
  bound : len ≤ 9223372036854775807
  at_ : 0 < len → a = some ⟨b, off, none⟩
  cell : ∀ i, i < len → w.cell? ⟨b, off + i, none⟩ = some (.string (S i))
  small : ∀ i, i < len → (S i).size ≤ 9223372036854775807

theorem Strs.lt {w : World} {a : Option Addr} {b off len : Nat} {S : Nat → ByteArray} (h : Strs w a b off len S) (hl : 0 < len) : b < w.heap.size :=
  World.block_lt_of_cell? _ _ (h.cell 0 hl)

/-- It ends in a bool, whichever. -/
def EndsBool (e : Ending) : Prop := ∃ t : Bool, e = .returned (.bool t)

set_option maxHeartbeats 400000 in
theorem bytes_any (a : Option Addr) (b off len cap : Nat) (S : Nat → ByteArray) (m : ByteArray) (w : World) (h : Strs w a b off len S) :
    Calls Trym.prog 11 #[.slice a len cap, .string m] w fun e w' => EndsBool e ∧ w = w' := by
  have h1 := h.bound
  have H : Hid (Strs w a b off len S) := h
  clear h
  by_cases hbig : 1048576 < (len : Int)
  · go_enter Trym.func11, Trym.ntmps11
    go_wp2
    go_ret
    exact ⟨⟨false, rfl⟩, rfl⟩
  · have hb' : decide (1048576 < (len : Int)) = false := by simpa using hbig
    go_enter Trym.func11, Trym.ntmps11
    go_wp2
    go_loop [5, 6] (fun z i => ∃ (k : Nat) (n : Int), k ≤ len ∧ i = .int .i64 k ∧ z = .int .i64 n ∧ 0 ≤ n ∧ n ≤ 1048576) (fun _ i => len - (intOf i).toNat)
    case atStart => exact ⟨0, len, Nat.zero_le _, rfl, rfl, by omega, by omega⟩
    case round =>
      obtain ⟨k, n, hk, rfl, rfl, hn0, hn1⟩ := hrel
      by_cases hlt : k < len
      · obtain rfl := H.out.at_ (by omega)
        have hc := H.out.cell k hlt
        have hz := H.out.small k hlt
        by_cases hs : 1048576 < ((S k).size : Int)
        · go_wp2
          go_ret
          exact ⟨⟨false, rfl⟩, rfl⟩
        · by_cases hs2 : 1048576 < n + ((S k).size : Int)
          · go_wp2
            go_ret
            exact ⟨⟨false, rfl⟩, rfl⟩
          · go_wp2
            go_round
            case rel => exact ⟨k + 1, n + ((S k).size : Int), by omega, by go_num, by go_num, by omega, by omega⟩
            case measure => simp [intOf]; omega
      · by_cases hm : 1048576 < (m.size : Int)
        · go_wp2
          go_ret
          exact ⟨⟨false, rfl⟩, rfl⟩
        · by_cases hm2 : 1048576 < n + (m.size : Int)
          · go_wp2
            go_ret
            exact ⟨⟨false, rfl⟩, rfl⟩
          · go_wp2
            go_ret
            exact ⟨⟨true, rfl⟩, rfl⟩

/-- The error that errors.New makes, in block b. -/
abbrev cause (b : Nat) : Value := .iface 40 (.pointer (some ⟨b, 0, none⟩))
/-- The path error in block b. -/
abbrev perr (b : Nat) : Value := .iface 35 (.pointer (some ⟨b, 0, none⟩))

set_option maxHeartbeats 400000 in
theorem new_any (m : ByteArray) (w : World) : Calls Trym.prog 15 #[.string m] w fun e w' => e = .returned (cause w.heap.size) ∧ w' = w.alloc (.cells #[.string m] 42) := by
  go_enter Trym.func15, Trym.ntmps15
  go_wp2
  go_ret
  exact ⟨rfl, rfl⟩

set_option maxHeartbeats 400000 in
theorem cause_any (m : ByteArray) (w : World) : Calls Trym.prog 6 #[.string m] w fun e w' => e = .returned (cause w.heap.size) ∧ w' = w.alloc (.cells #[.string m] 42) := by
  go_enter Trym.func6, Trym.ntmps6
  go_wp2_with (go_at_call 15; refine (new_any _ _).mono ?_; rintro e w' ⟨rfl, rfl⟩)
  go_ret
  exact ⟨rfl, rfl⟩

set_option maxHeartbeats 400000 in
theorem starts_lite (s : ByteArray) (w : World) (h : 0 < s.size) (t : Bool) (ht : ((s.extract 0 1).toList == [91]) = t) :
    Calls Trym.prog 19 #[.string s, .string ⟨#[91]⟩] w fun e w' => e = .returned (.bool t) ∧ w = w' := by
  have h1 : (1 : Int) ≤ (s.size : Int) := by omega
  go_enter Trym.func19, Trym.ntmps19
  go_wp2
  go_ret
  exact ⟨rfl, rfl⟩

end Go.Proofs.Qxb6608536aMods
