/-
  SEAT b6605622aM: THE SMALL CALLEES: zzStringBytes (7), zzCloneStrings (8), ZZNewScriptCall (9), ZZScriptCallArgLen (11), zzSameStrings (14), ZZScriptCallKeys (15), ZZScriptCallArgInt (29), ZZScriptCallArgString (30).
-/
import Derived.Test.Qxb6605622aModsRows
import Derived.WalkKit
import Derived.WalkSpells
import Derived.WalkLawsBesides
import Derived.Deep.OwnRows
import Derived.Laws.CopyOwn
import Derived.Deep.QuietTactic
import Derived.BigQuiet
namespace Go.Proofs.Qxb6605622aMods
open Go.RowKit

theorem Trym.info9 : (Trym.prog.info? 9).map (fun i => (i.zero, i.size, i.bytes)) = some (some (.string ByteArray.empty), 1, 16) := by kernel_rfl

/-- WHAT THE WALK IS TOLD OF A SLICE OF STRINGS. -/
structure Strs (w : World) (a : Option Addr) (b off len : Nat) (S : Nat → ByteArray) : Prop where
  bound : len ≤ 9223372036854775807
  at_ : 0 < len → a = some ⟨b, off, none⟩
  cell : ∀ i, i < len → w.cell? ⟨b, off + i, none⟩ = some (.string (S i))
  small : ∀ i, i < len → (S i).size ≤ 9223372036854775807

theorem Strs.below {w w' : World} {B : Nat} {a : Option Addr} {b off len : Nat} {S : Nat → ByteArray} (h : Strs w a b off len S) (hb : Below B w w') (hB : 0 < len → b < B) : Strs w' a b off len S :=
  ⟨h.bound, h.at_, fun i hi => by rw [hb.cell (p := ⟨b, off + i, none⟩) (hB (by omega))]; exact h.cell i hi, h.small⟩

theorem Strs.lt {w : World} {a : Option Addr} {b off len : Nat} {S : Nat → ByteArray} (h : Strs w a b off len S) (hl : 0 < len) : b < w.heap.size :=
  World.block_lt_of_cell? _ _ (h.cell 0 hl)

/-- It ends in a number. -/
def EndsCount (e : Ending) : Prop := ∃ z : Int, e = .returned (.int .i64 z)

set_option maxHeartbeats 400000 in
theorem count_any (a : Option Addr) (b off len cap : Nat) (S : Nat → ByteArray) (w : World) (h : Strs w a b off len S) :
    Calls Trym.prog 7 #[.slice a len cap] w fun e w' => EndsCount e ∧ w = w' := by
  have h1 := h.bound
  have H : Hid (Strs w a b off len S) := h
  clear h
  go_enter Trym.func7, Trym.ntmps7
  go_wp2
  go_loop [3, 4] (fun z i => ∃ (k : Nat) (n : Int), k ≤ len ∧ i = .int .i64 k ∧ z = .int .i64 n) (fun _ i => len - (intOf i).toNat)
  case atStart => exact ⟨0, 0, Nat.zero_le _, rfl, rfl⟩
  case round =>
    obtain ⟨k, n, hk, rfl, rfl⟩ := hrel
    by_cases hlt : k < len
    · obtain rfl := H.out.at_ (by omega)
      have hc := H.out.cell k hlt
      go_wp2
      · go_ret
        exact ⟨⟨_, rfl⟩, rfl⟩
      · go_round
        case rel => exact ⟨k + 1, _, by omega, by go_num, rfl⟩
        case measure => simp [intOf]; omega
    · go_wp2
      go_ret
      exact ⟨⟨_, rfl⟩, rfl⟩

/-- A copy has come back: a slice of the same strings, in new memory (or nil), nothing old turned. -/
def Cloned (w : World) (len : Nat) (S : Nat → ByteArray) (e : Ending) (w' : World) : Prop :=
  ∃ a b cap, e = .returned (.slice a len cap) ∧ Strs w' a b 0 len S ∧ Below w.heap.size w w' ∧ b < w'.heap.size + 1

set_option maxRecDepth 100000 in
theorem clone_nil (w : World) (S : Nat → ByteArray) : Calls Trym.prog 8 #[.slice none 0 0] w fun e w' => Cloned w 0 S e w' := by
  have hq := fun (w : World) (a : Option Addr) (n c : Nat) => Lib.run_eql_slice_nil (P := Trym.prog) w 22 9 a n c 0 0 Trym.underlying22
  go_enter Trym.func8, Trym.ntmps8
  go_wp2
  go_ret
  exact ⟨none, 0, 0, rfl, ⟨by omega, by omega, by omega, by omega⟩, Below.refl _ _, by omega⟩

theorem copy_run (x : Addr) (b off len cap : Nat) (S : Nat → ByteArray) (w : World) (h : Strs w (some x) b off len S) :
    ∃ W2 : World, (Builtin.copy_ #[22, 22] 3 #[.slice (some ⟨w.heap.size, 0, none⟩) len len, .slice (some x) len cap]).run Trym.prog (w.alloc (.cells (madeCells #[.string ByteArray.empty] len) 9)) = .ok (goInt len) W2 ∧
      Strs W2 (some ⟨w.heap.size, 0, none⟩) w.heap.size 0 len S ∧ Below w.heap.size w W2 ∧ w.heap.size < W2.heap.size := by
  have hl : ((List.range len).map fun i => Value.string (S i)).length = len := by simp
  have hg : (w.alloc (.cells (madeCells #[.string ByteArray.empty] len) 9)).heap[w.heap.size]? = some (.cells (madeCells #[.string ByteArray.empty] len) 9 (0, 0)) := (MapKept.heap_alloc w _).1
  have hrun := run_copy_row (P := Trym.prog) (w.alloc (.cells (madeCells #[.string ByteArray.empty] len) 9)) 22 22 3 9 w.heap.size 0 len len x len cap (madeCells #[.string ByteArray.empty] len) 9 ((List.range len).map fun i => Value.string (S i)) Trym.underlying22 (by kernel_rfl) hg (by simp) (by
    intro j v hj
    have hjl : j < len := by
      have := (List.getElem?_eq_some_iff.1 hj).1
      simpa using this
    have hv : v = .string (S j) := by simpa [hjl] using hj.symm
    obtain rfl : x = ⟨b, off, none⟩ := by simpa using h.at_ (by omega)
    rw [WideShapes.add_plain, Below.cell ((Below.refl w.heap.size w).alloc (Nat.le_refl _) _) (p := ⟨b, off + j, none⟩) (h.lt (by omega)), hv]
    exact h.cell j hjl) (by simp [size_madeCells]) (by simp [Value.oneCell'])
  rw [hl] at hrun
  refine ⟨_, hrun, ?_, below_setRow ((Below.refl _ _).alloc (Nat.le_refl _) _) (Nat.le_refl _) _, by simp [World.setRow]⟩
  refine ⟨h.bound, fun _ => rfl, fun i hi => ?_, h.small⟩
  have hh := setRow_heap _ _ _ (List.take 0 (madeCells #[.string ByteArray.empty] len).toList ++ (List.range len).map (fun i => Value.string (S i)) ++ List.drop (0 + len) (madeCells #[.string ByteArray.empty] len).toList).toArray _ _ hg
  rw [cell_of_row _ _ _ _ _ _ hh]
  simp only [List.take_zero, List.nil_append, List.getElem?_toArray, Nat.zero_add]
  rw [List.getElem?_append_left (by simpa using hi)]
  simp [hi]

set_option maxHeartbeats 400000 in
set_option maxRecDepth 100000 in
theorem clone_some (x : Addr) (b off len cap : Nat) (S : Nat → ByteArray) (w : World) (h : Strs w (some x) b off len S) (hl : len ≤ 4096) :
    Calls Trym.prog 8 #[.slice (some x) len cap] w fun e w' => Cloned w len S e w' := by
  have hmk := run_make_row' (P := Trym.prog) 22 9 (.string ByteArray.empty) 16 Trym.underlying22 Trym.info9 rfl .i64 .i64 len (by omega) (by omega)
  obtain ⟨W2, hcp, hS, hB, hlt⟩ := copy_run x b off len cap S w h
  have HS : Hid (Strs W2 (some ⟨w.heap.size, 0, none⟩) w.heap.size 0 len S) := hS
  have HB : Hid (Below w.heap.size w W2 ∧ w.heap.size < W2.heap.size) := ⟨hB, hlt⟩
  clear h hS hB hlt
  have hq := fun (w : World) (a : Option Addr) (n c : Nat) => Lib.run_eql_slice_nil (P := Trym.prog) w 22 9 a n c 0 0 Trym.underlying22
  go_enter Trym.func8, Trym.ntmps8
  go_wp2
  go_ret
  exact ⟨_, _, _, rfl, HS.out, HB.out.1, by have := HB.out.2; omega⟩

/-- Whatever the slice: its copy. -/
theorem clone_any (a : Option Addr) (b off len cap : Nat) (S : Nat → ByteArray) (w : World) (hn : a = none → len = 0 ∧ cap = 0) (h : Strs w a b off len S) (hl : len ≤ 4096) :
    Calls Trym.prog 8 #[.slice a len cap] w fun e w' => Cloned w len S e w' := by
  cases a with
  | none =>
    obtain ⟨rfl, rfl⟩ := hn rfl
    exact clone_nil w S
  | some x => exact clone_some x b off len cap S w h hl

set_option maxHeartbeats 400000 in
theorem newCall (kv : Value) (w : World) (a : Option Addr) (len cap : Nat) (hk : kv = .slice a len cap) :
    Calls Trym.prog 9 #[kv] w fun e w' => e = .returned (.pointer (some ⟨w.heap.size, 0, none⟩)) ∧ w' = w.alloc (.cells #[kv, .slice none 0 0] 66) := by
  subst hk
  go_enter Trym.func9, Trym.ntmps9
  go_wp2
  go_ret
  exact ⟨rfl, rfl⟩

set_option maxHeartbeats 400000 in
theorem argLen (sb : Nat) (a : Option Addr) (n cap : Nat) (w : World) (h1 : w.cell? ⟨sb, 1, none⟩ = some (.slice a n cap)) :
    Calls Trym.prog 11 #[.pointer (some ⟨sb, 0, none⟩)] w fun e w' => e = .returned (.int .i64 n) ∧ w = w' := by
  go_enter Trym.func11, Trym.ntmps11
  go_wp2
  go_ret
  exact ⟨rfl, rfl⟩

set_option maxHeartbeats 400000 in
theorem callKeys (sb : Nat) (a : Option Addr) (n cap : Nat) (w : World) (h1 : w.cell? ⟨sb, 0, none⟩ = some (.slice a n cap)) :
    Calls Trym.prog 15 #[.pointer (some ⟨sb, 0, none⟩)] w fun e w' => e = .returned (.slice a n cap) ∧ w = w' := by
  go_enter Trym.func15, Trym.ntmps15
  go_wp2
  go_ret
  exact ⟨rfl, rfl⟩

theorem assertInt (v : Value) (w : World) : (Instr.typeAssert (.iface 3 v) 20 3 true).run Trym.prog w = .ok (.tuple #[v, .bool true]) w := by kernel_rfl
theorem assertString (v : Value) (w : World) : (Instr.typeAssert (.iface 9 v) 20 9 true).run Trym.prog w = .ok (.tuple #[v, .bool true]) w := by kernel_rfl

set_option maxHeartbeats 400000 in
set_option maxRecDepth 100000 in
theorem argInt (sb g n cap : Nat) (i : Int) (z : Int) (w : World) (h1 : w.cell? ⟨sb, 1, none⟩ = some (.slice (some ⟨g, 0, none⟩) n cap)) (h0 : 0 ≤ i) (hi : i < (n : Int)) (hc : w.cell? ⟨g, i.toNat, none⟩ = some (.iface 3 (.int .i64 z))) :
    Calls Trym.prog 29 #[.pointer (some ⟨sb, 0, none⟩), .int .i64 i] w fun e w' => e = .returned (.tuple #[.int .i64 z, .bool true]) ∧ w = w' := by
  have ha := assertInt
  go_enter Trym.func29, Trym.ntmps29
  go_wp2
  go_ret2
  exact ⟨rfl, rfl⟩

set_option maxHeartbeats 400000 in
set_option maxRecDepth 100000 in
theorem argString (sb g n cap : Nat) (i : Int) (s : ByteArray) (w : World) (h1 : w.cell? ⟨sb, 1, none⟩ = some (.slice (some ⟨g, 0, none⟩) n cap)) (h0 : 0 ≤ i) (hi : i < (n : Int)) (hc : w.cell? ⟨g, i.toNat, none⟩ = some (.iface 9 (.string s))) :
    Calls Trym.prog 30 #[.pointer (some ⟨sb, 0, none⟩), .int .i64 i] w fun e w' => e = .returned (.tuple #[.string s, .bool true]) ∧ w = w' := by
  have ha := assertString
  go_enter Trym.func30, Trym.ntmps30
  go_wp2
  go_ret2
  exact ⟨rfl, rfl⟩

set_option maxHeartbeats 400000 in
theorem same_any (a a' : Option Addr) (b off b' off' len cap cap' : Nat) (S : Nat → ByteArray) (w : World) (h : Strs w a b off len S) (h' : Strs w a' b' off' len S) :
    Calls Trym.prog 14 #[.slice a len cap, .slice a' len cap'] w fun e w' => e = .returned (.bool true) ∧ Below w.heap.size w w' := by
  have h1 := h.bound
  have H : Hid (Strs w a b off len S) := h
  have H' : Hid (Strs w a' b' off' len S) := h'
  clear h h'
  go_enter Trym.func14, Trym.ntmps14
  go_wp2
  go_loopw [5] (fun i wr => ∃ k : Nat, k ≤ len ∧ i = .int .i64 k ∧ Below w.heap.size w wr) (fun i _ => len - (intOf i).toNat)
  case atStart => exact ⟨0, Nat.zero_le _, rfl, Below.refl _ _⟩
  case round =>
    obtain ⟨k, hk, rfl, hb⟩ := hrel
    by_cases hlt : k < len
    · obtain rfl := H.out.at_ (by omega)
      obtain rfl := H'.out.at_ (by omega)
      have hc : wr.cell? ⟨b, off + k, none⟩ = some (.string (S k)) := (hb.cell (p := ⟨b, off + k, none⟩) (H.out.lt (by omega))).trans (H.out.cell k hlt)
      have hc' : wr.cell? ⟨b', off' + k, none⟩ = some (.string (S k)) := (hb.cell (p := ⟨b', off' + k, none⟩) (H'.out.lt (by omega))).trans (H'.out.cell k hlt)
      have hz : (k : Int) < (len : Int) := by omega
      go_wp2
      go_quiet (fail)
      go_wp2
      go_roundw
      case rel => exact ⟨k + 1, by omega, by go_num, below_drewN hb _⟩
      case measure => simp [intOf]; omega
    · go_wp2
      go_ret
      exact ⟨rfl, hb⟩

end Go.Proofs.Qxb6605622aMods
