/-
  SEAT b6608536aM: at (17), ZZat (9), ZZpathOf (12), ZZcauseOf (13), ZZsameError (14), walked.
-/
import Derived.Test.Qxb6608536aModsSmall
namespace Go.Proofs.Qxb6608536aMods
open Go.RowKit

theorem assertNo (v : Value) (w : World) : (Instr.typeAssert (.iface 40 v) 24 35 true).run Trym.prog w = .ok (.tuple #[.pointer none, .bool false]) w := by kernel_rfl
theorem assertYes (v : Value) (w : World) : (Instr.typeAssert (.iface 35 v) 24 35 true).run Trym.prog w = .ok (.tuple #[v, .bool true]) w := by kernel_rfl

set_option maxHeartbeats 400000 in
theorem starts_any (s : ByteArray) (w : World) (h : 0 < s.size) (t : Bool) (ht : ((s.extract 0 1).toList == [91]) = t) :
    Calls Trym.prog 18 #[.string s, .string ⟨#[91]⟩] w fun e w' => e = .returned (.bool t) ∧ w = w' := by
  have HT : Hid (((s.extract 0 1).toList == [91]) = t) := ht
  clear ht
  go_enter Trym.func18, Trym.ntmps18
  go_wp2_with (go_at_call 19; refine (starts_lite s _ h t HT.out).mono ?_; rintro e w' ⟨rfl, rfl⟩)
  go_ret
  exact ⟨rfl, rfl⟩

set_option maxHeartbeats 400000 in
set_option maxRecDepth 100000 in
theorem at_first (s : ByteArray) (b : Nat) (w : World) :
    Calls Trym.prog 17 #[.string s, cause b] w fun e w' => e = .returned (perr w.heap.size) ∧ w' = w.alloc (.cells #[.string s, cause b] 37) := by
  have ha := assertNo
  go_enter Trym.func17, Trym.ntmps17
  go_wp2
  go_ret
  exact ⟨rfl, rfl⟩

set_option maxHeartbeats 400000 in
set_option maxRecDepth 100000 in
theorem at_bracket (s p : ByteArray) (pb : Nat) (w : World) (h0 : w.cell? ⟨pb, 0, none⟩ = some (.string p)) (hf : w.frozen? ⟨pb, 0, none⟩ = false) (hp : 0 < p.size) (hb : ((p.extract 0 1).toList == [91]) = true) (hz : s.size + p.size ≤ 4194304) :
    Calls Trym.prog 17 #[.string s, perr pb] w fun e w' => e = .returned (perr pb) ∧ w' = w.setCell ⟨pb, 0, none⟩ (.string (s ++ p)) := by
  have ha := assertYes
  have HB : Hid (((p.extract 0 1).toList == [91]) = true) := hb
  clear hb
  go_enter Trym.func17, Trym.ntmps17
  go_wp2_with (go_at_call 18; refine (starts_any p _ hp true HB.out).mono ?_; rintro e w' ⟨rfl, rfl⟩)
  go_ret
  exact ⟨rfl, rfl⟩

set_option maxHeartbeats 400000 in
set_option maxRecDepth 100000 in
theorem at_dot (s p : ByteArray) (pb : Nat) (w : World) (h0 : w.cell? ⟨pb, 0, none⟩ = some (.string p)) (hf : w.frozen? ⟨pb, 0, none⟩ = false) (hp : 0 < p.size) (hb : ((p.extract 0 1).toList == [91]) = false) (hz : s.size + p.size ≤ 4194304) :
    Calls Trym.prog 17 #[.string s, perr pb] w fun e w' => e = .returned (perr pb) ∧ w' = w.setCell ⟨pb, 0, none⟩ (.string (s ++ dot ++ p)) := by
  have ha := assertYes
  have HB : Hid (((p.extract 0 1).toList == [91]) = false) := hb
  clear hb
  go_enter Trym.func17, Trym.ntmps17
  go_wp2_with (go_at_call 18; refine (starts_any p _ hp false HB.out).mono ?_; rintro e w' ⟨rfl, rfl⟩)
  go_ret
  exact ⟨rfl, rfl⟩

/-- THE PATH ERROR IN MEMORY. -/
structure PE (w : World) (pb : Nat) (p : ByteArray) (cv : Value) : Prop where
  c0 : w.cell? ⟨pb, 0, none⟩ = some (.string p)
  c1 : w.cell? ⟨pb, 1, none⟩ = some cv
  fz : w.frozen? ⟨pb, 0, none⟩ = false

theorem PE.set {w : World} {pb : Nat} {p : ByteArray} {cv : Value} (h : PE w pb p cv) (q : ByteArray) : PE (w.setCell ⟨pb, 0, none⟩ (.string q)) pb q cv :=
  ⟨World.cell?_setCell_same _ _ _ h.c0, by rw [World.cell?_setCell_other _ _ _ _ (by simp)]; exact h.c1, by rw [World.frozen?_setCell]; exact h.fz⟩

theorem at_any (s p : ByteArray) (pb : Nat) (cv : Value) (w : World) (h : PE w pb p cv) (hp : 0 < p.size) (hz : s.size + p.size ≤ 4194304) :
    Calls Trym.prog 17 #[.string s, perr pb] w fun e w' => e = .returned (perr pb) ∧ w' = w.setCell ⟨pb, 0, none⟩ (.string (s ++ (sep p ++ p))) := by
  by_cases hb : p[0] = 91
  · have := at_bracket s p pb w h.c0 h.fz hp (by rw [head_list p hp, hb]; rfl) hz
    rw [sep_bracket p hp hb, empty_app]
    exact this
  · have := at_dot s p pb w h.c0 h.fz hp (by rw [head_list p hp]; simpa using hb) hz
    rw [sep_dot p hp hb, ← ByteArray.append_assoc]
    exact this

set_option maxHeartbeats 400000 in
theorem door_first (s : ByteArray) (b : Nat) (w : World) :
    Calls Trym.prog 9 #[.string s, cause b] w fun e w' => e = .returned (perr w.heap.size) ∧ w' = w.alloc (.cells #[.string s, cause b] 37) := by
  go_enter Trym.func9, Trym.ntmps9
  go_wp2_with (go_at_call 17; refine (at_first _ _ _).mono ?_; rintro e w' ⟨rfl, rfl⟩)
  go_ret
  exact ⟨rfl, rfl⟩

set_option maxHeartbeats 400000 in
theorem door_any (s p : ByteArray) (pb : Nat) (cv : Value) (w : World) (h : PE w pb p cv) (hp : 0 < p.size) (hz : s.size + p.size ≤ 4194304) :
    Calls Trym.prog 9 #[.string s, perr pb] w fun e w' => e = .returned (perr pb) ∧ w' = w.setCell ⟨pb, 0, none⟩ (.string (s ++ (sep p ++ p))) := by
  go_enter Trym.func9, Trym.ntmps9
  go_wp2_with (go_at_call 17; refine (at_any s p pb cv _ h hp hz).mono ?_; rintro e w' ⟨rfl, rfl⟩)
  go_ret
  exact ⟨rfl, rfl⟩

set_option maxHeartbeats 400000 in
set_option maxRecDepth 100000 in
theorem pathOf (p : ByteArray) (pb : Nat) (w : World) (h0 : w.cell? ⟨pb, 0, none⟩ = some (.string p)) :
    Calls Trym.prog 12 #[perr pb] w fun e w' => e = .returned (.tuple #[.string p, .bool true]) ∧ w = w' := by
  have ha := assertYes
  go_enter Trym.func12, Trym.ntmps12
  go_wp2
  go_ret2
  exact ⟨rfl, rfl⟩

set_option maxHeartbeats 400000 in
set_option maxRecDepth 100000 in
theorem causeOf (b pb : Nat) (w : World) (h1 : w.cell? ⟨pb, 1, none⟩ = some (cause b)) :
    Calls Trym.prog 13 #[perr pb] w fun e w' => e = .returned (.tuple #[cause b, .bool true]) ∧ w = w' := by
  have ha := assertYes
  go_enter Trym.func13, Trym.ntmps13
  go_wp2
  go_ret2
  exact ⟨rfl, rfl⟩

theorem eq_cause (b : Nat) (w : World) : (binOp .eql 24 (cause b) (cause b)).run Trym.prog w = .ok (.bool true) w := by
  have h1 : (Trym.prog.info? 40).map (·.comparable) = some true := by kernel_rfl
  have h2 : (Trym.prog.info? 42).map (·.size) = some 1 := by kernel_rfl
  obtain ⟨i, hi, hc⟩ := Option.map_eq_some_iff.1 h1
  obtain ⟨j, hj, _⟩ := Option.map_eq_some_iff.1 h2
  exact run_eql_iface_ptr_same w ⟨b, 0, none⟩ Trym.underlying24 Trym.underlying40 hi hc hj

set_option maxHeartbeats 400000 in
set_option maxRecDepth 100000 in
theorem sameErr (b : Nat) (w : World) : Calls Trym.prog 14 #[cause b, cause b] w fun e w' => e = .returned (.bool true) ∧ w = w' := by
  have he := eq_cause b
  go_enter Trym.func14, Trym.ntmps14
  go_wp2
  go_ret
  exact ⟨rfl, rfl⟩

end Go.Proofs.Qxb6608536aMods
