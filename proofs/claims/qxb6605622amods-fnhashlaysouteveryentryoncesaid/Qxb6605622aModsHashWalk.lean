/-
  SEAT b6605622aM: (*scriptCall).hash (28) and its door ZZHash (10), walked.
-/
import Derived.Test.Qxb6605622aModsHash
import Derived.LoopN
namespace Go.Proofs.Qxb6605622aMods
open Go.RowKit Go.Maps
variable {H : Type}
open Go.Proofs (encStr)
attribute [local go_sem ↓] Go.wp_at_zero Go.wp_at_succ

theorem some_ne {a b : Nat} (h : a ≠ b) : some a ≠ some b := fun e => h (by simpa using e)

set_option maxHeartbeats 1000000 in
set_option maxRecDepth 100000 in
theorem hash_any (sb : Nat) (kv av mv : Value) (n : Nat) (xs : List Value) (D : DataW H) (w : World) (hS : Sc w sb kv av n xs) (hM : MapIs w sb mv D) (hn : n ≤ 100000) (hD : Maps.size D ≤ 4096) :
    Calls Trym.prog 28 #[.pointer (some ⟨sb, 0, none⟩), mv] w fun e w' => e = .returned (.tuple #[]) ∧ Hashed w sb kv n xs D w' := by
  have hsb := hS.lt
  have hc1 := hS.c1
  have hfz := hS.fz
  have hlen : (Builtin.len_ #[23] 3 #[mv]).run Trym.prog w.drew = .ok (.int .i64 (Maps.size D)) w.drew := MapIs.len (hM.below (Below.refl sb w).drew (Nat.le_refl _))
  have hD' : (Maps.size D : Int) ≤ 4096 := by omega
  have hwr : IntKind.i64.wrap (2 * (Maps.size D : Int)) = 2 * (Maps.size D : Int) := IntWalk.i64_in _ ⟨by omega, by omega⟩
  go_enter Trym.func28, Trym.ntmps28
  go_upto_region 0 with fail
  go_cut [6] (fun _ wx => Laid w sb kv (n + 1) (xs ++ [cntV D]) wx)
  case first =>
    go_region_law (first | (refine step_head (z := .iface 3 (.int .i64 (2 * (Maps.size D : Int)))) (B := w.heap.size) (by rfl) (by rfl) ((hS.alloc _).drew) (heap_alloc_new w _) rfl hn ?_; intro g cap w1 hc2 hf2 hA) | fail)
    all_goals
      go_wp2_with fail
      go_meet
      case rel => exact ⟨_, Sc.stored ((hS.alloc _).drew) hA.grown hA.own, hA.below ((hS.alloc _).drew) ((Below.refl _ _).alloc (by omega) _).drew⟩
  case rest =>
    obtain ⟨av1, hS1, hb1⟩ := hcut
    have hM1 := hM.below hb1 (Nat.le_refl _)
    clear hlen hwr hc1 hfz hS hM
    rcases hM1 with ⟨rfl, rfl⟩ | ⟨bm, nm, rfl, hbm, hown⟩
    · have hrg := run_range_nilMap (P := Trym.prog) wc 23 9 9 Trym.underlying23
      have hnx : ∀ ty, (Instr.next (.pointer (some ⟨wc.heap.size, 0, none⟩)) false ty).run Trym.prog (wc.alloc (.mapIter none 0 #[] 0)) = _ := fun ty => run_next_nilMap _ ty 0 0 #[]
      go_wp2
      refine wp_loop_rounds 1 ?_
      rw [rounds_succ]
      go_wp2
      go_end0
      exact ⟨rfl, [], ⟨rfl, by simp, by simp⟩, av1, by simpa [pairs] using hS1.alloc _, hb1.alloc (Nat.le_of_lt hS1.lt) _⟩
    · go_wp2_with (first | (at_range; refine wpList_range_own _ rfl _ 23 rfl 9 9 law9 Trym.underlying23 _ bm nm _ rfl hown ?_; intro w0 hrg0 hg0 hs0) | go_in)
      go_frame
      have hS0 := hS1.kept hg0 (by simp) (by cases av1.ownBlock <;> simp)
      go_loopw [4] (fun _ wr => ∃ (left : Lit → Bool) (cnt : Nat) (L : List (List UInt8 × List UInt8)) (av2 : Value), wr.ranges Trym.prog 9 (plainElem Trym.prog 9) bm wc.heap.size nm D left cnt ∧ L.length + cnt ≤ Maps.size D ∧
          Sc wr sb kv av2 (n + 1 + 2 * L.length) (xs ++ [cntV D] ++ pairs L) ∧ Collected D left (L.map Prod.fst) ∧ (∀ p ∈ L, p.1.length ≤ maxLen ∧ ∀ zd, D.atKey (.string p.1) zd = .lit (.string p.2)) ∧ Below sb w wr)
        (fun _ wr => wr.rangeLeft bm wc.heap.size)
      case atStart =>
        exact ⟨_, _, [], av1, hrg0, by simp, by simpa [pairs] using hS0, Collected.start D, by simp, hb1.grown hg0 (Nat.le_of_lt hS1.lt) (fun j hj => by cases hj)⟩
      case round =>
        obtain ⟨left, cnt, L, av2, hrg, hcs, hS2, hC, hat, hbel⟩ := hrel
        have hwc : sb < wc.heap.size := hS1.lt
        clear hrg0 hg0 hs0 hS0 hb1 hS1
        go_wp2_with (first
          | (at_next; refine wpList_next_ranges _ rfl _ rfl 9 law9 (plainElem Trym.prog 9) encStr encStr (fun key kl hk => by obtain ⟨x, hx, _⟩ := Maps.keyOf_str Trym.underlying9 hk; exact ⟨x, hx⟩) (fun v y hv => by obtain ⟨c, hc, _⟩ := plainElem_string_inv Trym.underlying9 hv; exact ⟨c.data.toList, by rw [hc]⟩) bm wc.heap.size nm _ _ _ rfl hrg ?_ ?_)
          | go_in)
        · intro hc0 hl0
          go_wp2
          go_end0
          have hp := hC.perm hown law9 Trym.underlying9 hl0
          obtain ⟨es, hDe, _⟩ := hown.entries law9
          exact ⟨rfl, L, ⟨by have := hp.length_eq; rw [size_strKeys D es hDe] at this; simpa using this, hC.1, hat⟩, av2, hS2, hbel⟩
        · intro x c kl yd yp w2 cnt2 hkey hlk hv hat2 hrg2 hlt hg2 hs2 hen
          obtain ⟨x', ex, hkl, hxl⟩ := Maps.keyOf_str Trym.underlying9 hkey
          obtain rfl : x = x' := encStr_inj ex
          subst hkl
          obtain ⟨c', hc', hy, _⟩ := plainElem_string_inv Trym.underlying9 hv
          have hyd : yd = .lit (.string c) := by
            have : c' = ⟨c.toArray⟩ := by simpa [encStr] using hc'.symm
            subst this
            simpa using congrArg Prod.fst hy
          have hS3 := hS2.kept hg2 (some_ne (by omega)) (Or.inr (row_ne_iter hS2.own hrg).symm)
          have hcc := hS3.c1
          have hff := hS3.fz
          have hb2 : Below sb w w2 := hbel.grown hg2 (by have := hbel.size; omega) (fun j hj => by cases hj; omega)
          have HN : Hid (Collected D (fun z => left z && !z.sameKey (.string x)) ((L ++ [(x, c)]).map Prod.fst) ∧ ∀ p ∈ L ++ [(x, c)], p.1.length ≤ maxLen ∧ ∀ zd, D.atKey (.string p.1) zd = .lit (.string p.2)) := by
            refine ⟨by simpa using hC.step hlk hat2, fun p hp => ?_⟩
            rcases List.mem_append.1 hp with hp | hp
            · exact hat p hp
            · obtain rfl : p = (x, c) := by simpa using hp
              exact ⟨hxl, fun zd => by rw [hat2 zd, hyd]⟩
          have HM : Hid (w2.rangeLeft bm wc.heap.size < wr.rangeLeft bm wc.heap.size) := by rw [hrg2.left_eq, hrg.left_eq]; exact hlt
          have hLc : L.length + 1 + cnt2 ≤ Maps.size D := by omega
          have hnm : some bm ≠ av2.ownBlock := row_ne_low hS3.own (by omega)
          have hnr : some wc.heap.size ≠ av2.ownBlock := row_ne_iter hS3.own hrg2
          have hrl := hrg.left_eq
          clear hs2 hv hkey hy hyd hat2 hC hat hlk hg2 hS2 hbel ex hc' hrg hcs hlt
          go_wp2_with (first
            | (at_builtin; refine list_pair (W := w2.alloc _) (y := .iface 9 (.string ⟨x.toArray⟩)) (z := .iface 9 (.string ⟨c.toArray⟩)) (B := w2.heap.size) (by rfl) (by rfl) (hS3.alloc _) (heap_alloc_new w2 _) ⟨rfl, rfl⟩ (by omega) ?_; intro g cap w3 hc3 hf3 hA)
            | go_in)
          have hrgF := ((hrg2.alloc _).kept hA.grown hnm hnr).kept (grown_set w3 sb 1 (.slice (some ⟨g, 0, none⟩) (n + 1 + 2 * L.length + 2) cap)) (some_ne (by omega)) (some_ne (by omega))
          have hSF := Sc.stored (hS3.alloc _) hA.grown hA.own
          have hBF := hA.below (hS3.alloc _) (hb2.alloc (by have := hS3.lt; omega) _)
          go_roundw
          case rel =>
            refine ⟨_, cnt2, L ++ [(x, c)], .slice (some ⟨g, 0, none⟩) (n + 1 + 2 * L.length + 2) cap, hrgF, by simp; omega, ?_, HN.out.1, HN.out.2, hBF⟩
            have e1 : n + 1 + 2 * (L ++ [(x, c)]).length = n + 1 + 2 * L.length + 2 := by simp; omega
            rw [e1, pairs_snoc, ← List.append_assoc]
            exact hSF
          case measure => rw [hrgF.left_eq, ← hrg2.left_eq]; exact HM.out

set_option maxHeartbeats 400000 in
theorem door_hash (sb : Nat) (kv av mv : Value) (n : Nat) (xs : List Value) (D : DataW H) (w : World) (hS : Sc w sb kv av n xs) (hM : MapIs w sb mv D) (hn : n ≤ 100000) (hD : Maps.size D ≤ 4096) :
    Calls Trym.prog 10 #[.pointer (some ⟨sb, 0, none⟩), mv] w fun e w' => e = .returned (.tuple #[]) ∧ Hashed w sb kv n xs D w' := by
  go_enter Trym.func10, Trym.ntmps10
  go_wp2_with (go_at_call 28; refine (hash_any sb kv av mv n xs D _ hS hM hn hD).mono ?_; rintro e w' ⟨rfl, hH⟩)
  go_end0
  exact ⟨rfl, hH⟩

end Go.Proofs.Qxb6605622aMods
