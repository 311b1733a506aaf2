import Derived.Test.Qxb6605604aModsSplit
import Derived.WalkKit
import Derived.ProofKit
import Derived.OpenShut
import Derived.ShutString
namespace Go.Proofs.Qxb6605604aMods.fnChildPathSplitsBackAtLastSlash
open Go.ChangeShapes Go.WideShapes Go.ChangeAt Go.RowKit
open Go.ChangeMaps (open_string shut_string)
set_option linter.unusedVariables false

theorem own : ownKnob Trym.prog.godebug = none := by kernel_rfl


set_option maxHeartbeats 800000 in
theorem walk_small (a0 : ByteArray) (a1 : ByteArray) (hs : a0.size + a1.size ≤ 1048576) (w : World) :
    Calls Trym.prog 3 #[.string a0, .string a1] w fun e w' => e = .returned (.bool true) ∧ Grown w w' := by
  have h1 : decide (1048576 < (a0.size : Int)) = false := by simp; omega
  have h2 : decide (1048576 < (a1.size : Int)) = false := by simp; omega
  have h3 : decide (1048576 < (a0.size : Int) + (a1.size : Int)) = false := by simp; omega
  have h4 : (a0.size : Int) ≤ 1048576 := by omega
  have h5 : (a1.size : Int) ≤ 1048576 := by omega
  go_enter Trym.func3, Trym.ntmps3
  go_wp2_with (go_at_call 8; refine (bytes_small _ _ _ hs).mono ?_; rintro e w' ⟨rfl, rfl⟩)
  go_loop [5] (fun i => ∃ k : Nat, k ≤ a1.size ∧ i = .int .i64 k ∧ Hid (∀ j (h : j < a1.size), j < k → a1[j] ≠ 47)) (fun i => a1.size - (intOf i).toNat)
  case atStart => exact ⟨0, Nat.zero_le _, rfl, fun j _ h => by omega⟩
  case round =>
    obtain ⟨k, hk, rfl, HN⟩ := hrel
    by_cases hlt : k < a1.size
    · by_cases hb : a1[k] = 47
      · have hb' := byte_eq hlt hb
        clear hb
        go_wp2
        go_ret
        exact ⟨rfl, Grown.refl _⟩
      · have hb' := byte_ne hlt hb
        have HB : Hid (a1[k] ≠ 47) := hb
        clear hb
        go_wp2
        go_round
        case rel => 
          refine ⟨k + 1, by omega, by go_num, fun j h hj => ?_⟩
          by_cases e : j = k
          · subst e; exact HB.out
          · exact HN.out j h (by omega)
        case measure => simp [intOf]; omega
    · have HA : Hid (∀ j (h : j < a1.size), a1[j] ≠ 47) := fun j h => HN.out j h (by omega)
      clear HN
      by_cases h0 : a0.size = 0
      · have hp : a0.toList.isEmpty = true := by rw [isEmpty_size]; simpa using h0
        clear h0
        go_wp2_with (first | (go_at_call 9; refine (door_top _ _ _ hp).mono ?_; rintro e w' ⟨rfl, rfl⟩) | (go_at_call 10; refine (last_none _ _ (by omega) HA.out).mono ?_; rintro e w' ⟨rfl, rfl⟩))
        go_ret
        exact ⟨rfl, Grown.refl _⟩
      · have hp : a0.toList.isEmpty = false := by rw [isEmpty_size]; simpa using h0
        clear h0
        obtain ⟨s, hdoor, hz, hl, hat, hno, hcl, hcr⟩ : ∃ s : ByteArray, (∀ w : World, Calls Trym.prog 9 #[.string a0, .string a1] w fun e w' => e = .returned (.string s) ∧ w' = w) ∧ s.size ≤ 4194304 ∧
            ∃ hl : a0.size < s.size, s[a0.size] = 47 ∧ (∀ k (h : k < s.size), a0.size < k → s[k] ≠ 47) ∧ s.extract 0 a0.size = a0 ∧ s.extract (a0.size + 1) s.size = a1 := by
          obtain ⟨hl, hat⟩ := at_left a0 a1
          exact ⟨a0 ++ slash ++ a1, fun w => door_deep a0 a1 w hp (by omega), by rw [join_size]; omega, hl, hat, at_right a0 a1 HA.out, cut_left a0 a1, cut_right a0 a1 _ (Nat.le_refl _)⟩
        have hlast : Hid (∀ w : World, Calls Trym.prog 10 #[.string s] w fun e w' => e = .returned (.int .i64 a0.size) ∧ w' = w) := fun w => last_at s a0.size w hz hl hat hno
        have hd : Hid (∀ w : World, Calls Trym.prog 9 #[.string a0, .string a1] w fun e w' => e = .returned (.string s) ∧ w' = w) := hdoor
        clear hdoor hat hno
        go_wp2_with (first | (go_at_call 9; refine (hd.out _).mono ?_; rintro e w' ⟨rfl, rfl⟩) | (go_at_call 10; refine (hlast.out _).mono ?_; rintro e w' ⟨rfl, rfl⟩))
        go_ret
        exact ⟨rfl, Grown.refl _⟩

theorem walk (a0 : ByteArray) (a1 : ByteArray) (w0 : a0.size ≤ maxLen) (w1 : a1.size ≤ maxLen) (w : World) :
    Calls Trym.prog 3 #[.string a0, .string a1] w fun e w' => e = .returned (.bool true) ∧ Grown w w' := by
  by_cases hs : a0.size + a1.size ≤ 1048576
  · exact walk_small a0 a1 hs w
  · go_enter Trym.func3, Trym.ntmps3
    go_wp2_with (go_at_call 8; refine (bytes_big _ _ _ w0 w1 (by omega)).mono ?_; rintro e w' ⟨rfl, rfl⟩)
    go_ret
    exact ⟨rfl, Grown.refl _⟩

/-! ### THE ROW's STEP: WRITTEN OUT: LEAVE IT -/
set_option maxRecDepth 100000 in
theorem lifted (os : Os) (started : os.Started) (H : Type) (enc : TypeId × Value → H) :
    ReturnsInHanded {} Trym.checked os 3 .any (Rows.fnChildPathSplitsBackAtLastSlashSpec.pre6 enc Trym.prog Trym.f3 Rows.fnChildPathSplitsBackAtLastSlashRow.domain false) (Rows.fnChildPathSplitsBackAtLastSlashSpec.post enc Trym.prog Trym.f3 false true false false) := by
  refine returnsInHanded_of_change (C := Trym.checked) own started (by kernel_rfl) Trym.func3
    (ChangeSpec.witness6 (enc := enc) (C := Trym.checked) false ⟨#[], #[.string ByteArray.empty, .string ByteArray.empty], []⟩ 8 (by kernel_rfl) (by kernel_rfl) (by kernel_rfl) (by kernel_rfl)) ?_
  intro W base args ds gs before hval0 hW hcnd _
  have hval : ∀ (j : Nat) t v, Trym.f3.params[j]? = some t → args[j]? = some v → Value.okWide Trym.prog W .any base t v := hval0
  have hW' := hW
  obtain ⟨p, q, hA0, hV, rfl, hfz, hnd⟩ := hW
  have hA : DataW.TrodAll enc Trym.prog W 0 (fun _ => true) true Trym.f3.params.toList args.toList ds p := hA0
  rw [Trym.params3] at hA hval
  obtain ⟨v0, vs0, d0, ds0, p0, q0, hargs, rfl, rfl, h0, r0⟩ := trodAll_cons hA
  obtain ⟨v1, vs1, d1, ds1, p1, q1, rfl, rfl, rfl, h1, r1⟩ := trodAll_cons r0
  obtain ⟨rfl, rfl, rfl⟩ := trodAll_nil r1
  obtain rfl : args = #[v0, v1] := by cases args; simp_all
  obtain ⟨rfl, rfl⟩ := trodVars_none hV
  obtain ⟨a0, rfl, rfl, rfl, w0⟩ := open_string Trym.underlying9 (hval 0 9 v0 rfl rfl) h0
  obtain ⟨a1, rfl, rfl, rfl, w1⟩ := open_string Trym.underlying9 (hval 1 9 v1 rfl rfl) h1
  clear hA0 hval0
  simp only [List.append_nil] at hW'
  refine (walk a0 a1 w0 w1 W).mono fun e W' ⟨he, hg⟩ => ?_
  subst he
  exact ⟨_, rfl, post_of_same (pa := []) (pv := []) hW' (fun _ _ _ => (trodAll_cons_mk (shut_bool Trym.underlying4 _) trodAll_mk0)) (fun sp _ => (trodAll_cons_mk (shut_string Trym.underlying9 w0) (trodAll_cons_mk (shut_string Trym.underlying9 w1) trodAll_mk0))) (fun _ _ => rfl) rfl
    (hg.frame _) hg.2.1 (ok_one (by kernel_rfl) rfl (okWide_bool_mk Trym.underlying4 _))⟩

theorem over : Rows.fnChildPathSplitsBackAtLastSlashRow.holds Trym.pinned (OpenSpec.ofChange Rows.fnChildPathSplitsBackAtLastSlashSpec) :=
  OpenClaim.holds_of_wide 3 Trym.f3 rfl rfl rfl rfl rfl rfl rfl ⟨rfl, rfl, rfl, rfl, rfl⟩ rfl rfl rfl rfl rfl (by kernel_rfl) Trym.func3 (by kernel_rfl)
    (of_decide_eq_true (by kernel_rfl)) (by unfold Func.isWrapper; first | (rw [if_pos (by decide +kernel)]; kernel_rfl) | (rw [if_neg (by decide +kernel)]; exact ⟨rfl, rfl⟩))
    (fun os started H enc _ => lifted os started H enc)

/-- ████ THE STATEMENT ████ -/
theorem proved : Rows.FnChildPathSplitsBackAtLastSlashSaid :=
  over
end Go.Proofs.Qxb6605604aMods.fnChildPathSplitsBackAtLastSlash
