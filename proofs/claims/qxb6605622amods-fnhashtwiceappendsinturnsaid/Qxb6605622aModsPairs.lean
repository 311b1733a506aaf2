/-
  SEAT b6605622aM: zzCountAt (12), zzPairsAreEntries (13), walked.
-/
import Derived.Test.Qxb6605622aModsHash
import Derived.Maps.OwnOps
namespace Go.Proofs.Qxb6605622aMods
open Go.RowKit Go.Maps
variable {H : Type}
open Go.Proofs (encStr)

set_option maxHeartbeats 400000 in
set_option maxRecDepth 100000 in
theorem countAt (sb g n cap : Nat) (i z : Int) (w : World) (h1 : w.cell? ⟨sb, 1, none⟩ = some (.slice (some ⟨g, 0, none⟩) n cap)) (h0 : 0 ≤ i) (hi : i < (n : Int)) (hc : w.cell? ⟨g, i.toNat, none⟩ = some (.iface 3 (.int .i64 z))) :
    Calls Trym.prog 12 #[.pointer (some ⟨sb, 0, none⟩), .int .i64 i, .int .i64 z] w fun e w' => e = .returned (.bool true) ∧ w = w' := by
  go_enter Trym.func12, Trym.ntmps12
  go_wp2_with (go_at_call 29; refine (argInt sb g n cap i z _ h1 h0 hi hc).mono ?_; rintro e w' ⟨rfl, rfl⟩)
  go_ret
  exact ⟨by simp, rfl⟩

theorem zero9 (w : World) : (zeroValue 9).run Trym.prog w = .ok (.string ByteArray.empty) w := by kernel_rfl
theorem zero4 (w : World) : (zeroValue 4).run Trym.prog w = .ok (.bool false) w := by kernel_rfl
theorem make63 (n : Int) (w : World) : (Instr.makeMap 63 (some (.int .i64 n))).run Trym.prog w = .ok (.map (some w.heap.size)) (w.alloc (.map #[] 0)) := by kernel_rfl

theorem pair_cells (L : List (List UInt8 × List UInt8)) (k : Nat) (hk : k < L.length) : (pairs L)[2 * k]? = some (.iface 9 (encStr L[k].1)) ∧ (pairs L)[2 * k + 1]? = some (.iface 9 (encStr L[k].2)) := by
  induction L generalizing k with
  | nil => simp at hk
  | cons p L ih =>
    cases k with
    | zero => simp [pairs]
    | succ k =>
      have := ih k (by simpa using hk)
      have e : pairs (p :: L) = [.iface 9 (encStr p.1), .iface 9 (encStr p.2)] ++ pairs L := by simp [pairs]
      rw [e, List.getElem?_append_right (by simp; omega), List.getElem?_append_right (by simp; omega)]
      have e1 : 2 * (k + 1) - [Value.iface 9 (encStr p.1), .iface 9 (encStr p.2)].length = 2 * k := by simp; omega
      have e2 : 2 * (k + 1) + 1 - [Value.iface 9 (encStr p.1), .iface 9 (encStr p.2)].length = 2 * k + 1 := by simp; omega
      rw [e1, e2]
      simpa using this

theorem key9 {x : List UInt8} (hx : x.length ≤ maxLen) : keyOf Trym.prog 9 (encStr x) = some (.string x) := by
  have := WideMaps.keyOf_string_mk (P := Trym.prog) Trym.underlying9 (s := ⟨x.toArray⟩) (by simpa [ByteArray.size] using hx)
  simpa using this

/-- 'want, in := fields[f]' at an entry of the map. -/
theorem MapIs.look {w : World} {B : Nat} {mv : Value} {D : DataW H} (h : MapIs w B mv D) {x y : List UInt8} (hx : x.length ≤ maxLen) (hat : ∀ zd, D.atKey (.string x) zd = .lit (.string y)) :
    (Instr.lookup 23 mv (encStr x) true).run Trym.prog w = .ok (.tuple #[encStr y, .bool true]) w := by
  have hhas : Maps.has D (.string x) = true := has_true_of_atKey hat
  rcases h with ⟨rfl, rfl⟩ | ⟨b, n, rfl, _, hown⟩
  · simp [has_eq] at hhas
  · obtain ⟨v, ps, hrun, hv⟩ := hown.look_ok law9 Trym.underlying23 (zero9 w) (plainElem_string (H := H) Trym.underlying9 (by decide : ByteArray.empty.size ≤ maxLen)) (key9 hx)
    obtain ⟨s, rfl, hs, _⟩ := plainElem_string_inv Trym.underlying9 hv
    rw [hat] at hs
    have e : y = s.data.toList := by simpa using congrArg Prod.fst hs
    rw [hrun, hhas, e]

theorem bool_inv {P : Program} {e : TypeId} (he : P.underlying e = some .bool) {v : Value} {x : Bool} {ps : List MemPlace} (h : plainElem (H := H) P e v = some (.lit (.bool x), ps)) : v = .bool x := by
  unfold plainElem at h
  rw [he] at h
  cases v <;> simp at h
  rw [h.1]

/-- 'seen[f]' at a key that is not there. -/
theorem seen_not {w : World} {b n : Nat} {M : DataW H} (hown : w.ownsMap Trym.prog 9 (plainElem Trym.prog 4) b n M) {x : List UInt8} (hx : x.length ≤ maxLen) (hno : Maps.has M (.string x) = false) :
    (Instr.lookup 63 (.map (some b)) (encStr x) false).run Trym.prog w = .ok (.bool false) w := by
  obtain ⟨v, ps, hrun, hv⟩ := hown.lookup law9 Trym.underlying63 (zero4 w) (plainElem_bool (H := H) Trym.underlying4 false) (key9 hx)
  rw [atKey_of_not_has hno] at hv
  rw [hrun, bool_inv Trym.underlying4 hv]

/-- What of the arguments' row the check reads. -/
structure Row (w : World) (sb g n cap start : Nat) (L : List (List UInt8 × List UInt8)) : Prop where
  c1 : w.cell? ⟨sb, 1, none⟩ = some (.slice (some ⟨g, 0, none⟩) n cap)
  room : start + 2 * L.length ≤ n
  fst : ∀ k (h : k < L.length), w.cell? ⟨g, start + 2 * k, none⟩ = some (.iface 9 (encStr L[k].1))
  snd : ∀ k (h : k < L.length), w.cell? ⟨g, start + 2 * k + 1, none⟩ = some (.iface 9 (encStr L[k].2))
  low : sb < w.heap.size ∧ g < w.heap.size

theorem Row.below {w w' : World} {sb g n cap start : Nat} {L : List (List UInt8 × List UInt8)} (h : Row w sb g n cap start L) (hb : Below w.heap.size w w') : Row w' sb g n cap start L :=
  ⟨(hb.cell (p := ⟨sb, 1, none⟩) h.low.1).trans h.c1, h.room, fun k hk => (hb.cell (p := ⟨g, start + 2 * k, none⟩) h.low.2).trans (h.fst k hk), fun k hk => (hb.cell (p := ⟨g, start + 2 * k + 1, none⟩) h.low.2).trans (h.snd k hk),
    by have := hb.size; have := h.low; omega⟩

set_option maxHeartbeats 1000000 in
set_option maxRecDepth 100000 in
theorem pairs_any (sb g n cap start B : Nat) (mv : Value) (D : DataW H) (L : List (List UInt8 × List UInt8)) (w : World) (hR : Row w sb g n cap start L) (hM : MapIs w B mv D) (hB : B ≤ w.heap.size) (hE : Entries D L) (hD : Maps.size D ≤ 4096) (hst : start ≤ 100000) :
    Calls Trym.prog 13 #[.pointer (some ⟨sb, 0, none⟩), .int .i64 start, mv] w fun e w' => e = .returned (.bool true) ∧ Below w.heap.size w w' := by
  have hlen := hM.len
  have hLD : L.length ≤ 4096 := by have := hE.len; omega
  have hmk := make63
  have HR : Hid (Row w sb g n cap start L) := hR
  have HM : Hid (MapIs w B mv D) := hM
  have HE : Hid (Entries D L) := hE
  have hsz : (Maps.size D) = L.length := hE.len.symm
  rw [hsz] at hlen
  clear hR hM hE hsz hD
  go_enter Trym.func13, Trym.ntmps13
  go_wp2
  clear hlen hmk
  go_loopw [9] (fun i wr => ∃ (k : Nat) (M : DataW H), k ≤ L.length ∧ i = .int .i64 k ∧ wr.ownsMap Trym.prog 9 (plainElem Trym.prog 4) w.heap.size k M ∧ Hid (∀ j (h : j < L.length), k ≤ j → Maps.has M (.string L[j].1) = false) ∧ Below w.heap.size w wr) (fun i _ => L.length - (intOf i).toNat)
  case atStart => exact ⟨0, .map [], Nat.zero_le _, rfl, World.ownsMap_made _ _ _ _, fun _ _ _ => rfl, (Below.refl _ _).alloc (Nat.le_refl _) _⟩
  case round =>
    obtain ⟨k, M, hk, rfl, hown, HN, hbel⟩ := hrel
    by_cases hlt : k < L.length
    · have hz : (k : Int) < (L.length : Int) := by omega
      have hin := HE.out.at_ L[k] (List.getElem_mem hlt)
      have hlook := (HM.out.below hbel hB).look hin.1 hin.2
      have hseen := seen_not hown hin.1 (HN.out k hlt (Nat.le_refl _))
      have hkey := key9 hin.1
      have hRr := HR.out.below hbel
      have hnl := hRr.room
      have ha1 : Hid (∀ i : Int, i = (start : Int) + 2 * (k : Int) → Calls Trym.prog 30 #[.pointer (some ⟨sb, 0, none⟩), .int .i64 i] wr fun e w' => e = .returned (.tuple #[encStr L[k].1, .bool true]) ∧ wr = w') := fun i hi => by
        subst hi
        exact argString sb g n cap _ _ wr hRr.c1 (by omega) (by omega) (by have := hRr.fst k hlt; rwa [show ((start : Int) + 2 * (k : Int)).toNat = start + 2 * k from by omega])
      have ha2 : Hid (∀ i : Int, i = (start : Int) + 2 * (k : Int) + 1 → Calls Trym.prog 30 #[.pointer (some ⟨sb, 0, none⟩), .int .i64 i] wr fun e w' => e = .returned (.tuple #[encStr L[k].2, .bool true]) ∧ wr = w') := fun i hi => by
        subst hi
        exact argString sb g n cap _ _ wr hRr.c1 (by omega) (by omega) (by have := hRr.snd k hlt; rwa [show ((start : Int) + 2 * (k : Int) + 1).toNat = start + 2 * k + 1 from by omega])
      have HNK : Hid (∀ j (h : j < L.length), k + 1 ≤ j → Maps.has (M.put (.string L[k].1) (.lit (.bool true))) (.string L[j].1) = false) := fun j hj hkj => by
        rw [has_put_other (by
          intro e
          have e' : L[j].1 = L[k].1 := by simpa using e
          have hnd := HE.out.nodup
          exact List.pairwise_iff_getElem.1 hnd k j (by simpa using hlt) (by simpa using hj) (by omega) (by simpa using e'.symm))]
        exact HN.out j hj (by omega)
      clear hin hRr HN
      generalize L[k].1 = f at *
      generalize L[k].2 = v at *
      go_wp2_with fail
      refine (ha1.out _ rfl).mono ?_
      rintro e w' ⟨rfl, rfl⟩
      go_wp2_with fail
      refine (ha2.out _ rfl).mono ?_
      rintro e w' ⟨rfl, rfl⟩
      go_wp2_with (first | (at_mapUpdate; refine wpList_mapUpdate_own _ rfl _ _ _ 63 rfl 9 4 law9 Trym.underlying63 _ w.heap.size k _ rfl hown (by unfold maxLen; omega) _ _ _ rfl rfl hkey _ [] (plainElem_bool Trym.underlying4 true) ?_; intro w1 hown1 hgrow1) | go_in)
      go_roundw
      case rel => exact ⟨k + 1, _, by omega, by go_num, hown1, HNK, hbel.grown hgrow1 hbel.size (fun j hj => by cases hj; exact Nat.le_refl _)⟩
      case measure => simp [intOf]; omega
    · obtain rfl : k = L.length := by omega
      go_wp2
      go_ret
      exact ⟨rfl, hbel⟩

end Go.Proofs.Qxb6605622aMods
