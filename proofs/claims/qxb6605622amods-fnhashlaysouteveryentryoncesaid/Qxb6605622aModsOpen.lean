/-
  SEAT b6605622aM: HOW THE ARGUMENTS ARE OPENED: a slice of strings, a map of strings.
-/
import Derived.Test.Qxb6605622aModsHash
import Derived.ProofKit
import Derived.SizedLaws
import Derived.Deep.Strs
import Derived.Maps.StringElems
namespace Go.Proofs.Qxb6605622aMods
open Go.ChangeShapes Go.WideShapes Go.ChangeAt Go.RowKit Go.WideElems Go.Maps
variable {H : Type}

theorem open_keys {enc : TypeId × Value → H} {W : World} {a : Option Addr} {len cap : Nat} {d : DataW H} {p : List MemPlace} (h : DataW.Trod enc Trym.prog W 0 (fun _ => true) true 22 (.slice a len cap) d p) :
    ∃ b off S, (a = none → len = 0 ∧ cap = 0) ∧ Strs W a b off len S := by
  obtain ⟨fuel, hf⟩ := h
  rcases Go.Deep.open_strs Trym.underlying22 Trym.underlying9 (by kernel_rfl) hf with ⟨hcs, _⟩ | ⟨x, l, c, m, S, hcs, _, hl, hm, hmm, _, hcell⟩
  · simp [Value.cells] at hcs
    obtain ⟨rfl, rfl, rfl⟩ := hcs
    exact ⟨0, 0, fun _ => ByteArray.empty, fun _ => ⟨rfl, rfl⟩, by omega, by omega, by omega, by omega⟩
  · simp [Value.cells] at hcs
    obtain ⟨rfl, rfl, rfl⟩ := hcs
    have hm1 : m = cap := by simpa using hmm
    subst hm1
    unfold maxLen at hm
    obtain ⟨b, off, spot⟩ := x
    by_cases h0 : 0 < len
    · have hspot : spot = none := by simpa [Addr.add] using World.cell?_spot (hcell 0 (by omega)).1
      subst hspot
      exact ⟨b, off, S, by simp, by omega, fun _ => rfl, fun i hi => by have := (hcell i (by omega)).1; rwa [add_plain] at this, fun i hi => by have := (hcell i (by omega)).2; unfold maxLen at this; omega⟩
    · exact ⟨b, off, S, by simp, by omega, by omega, by omega, by omega⟩

theorem open_fields {enc : TypeId × Value → H} {W : World} {r : Option Nat} {d : DataW H} {p : List MemPlace} (h : DataW.Trod enc Trym.prog W 0 (fun _ => true) true 23 (.map r) d p) :
    ∃ D : DataW H, MapIs W W.heap.size (.map r) D ∧ Maps.size D ≤ 9223372036854775807 := by
  obtain ⟨fuel, hf⟩ := h
  rcases open_map Trym.underlying23 hf with ⟨hcs, _⟩ | ⟨bm, es, clock, m, _, hcs, hb, _, F, _⟩
  · simp [Value.cells] at hcs
    subst hcs
    exact ⟨.map [], .inl ⟨rfl, rfl⟩, by simp [Maps.size]⟩
  · simp [Value.cells] at hcs
    subst hcs
    have hown := World.ownsMap_of_fit (R := plainElem Trym.prog 9) hb F (fun x _ z hz => elemAt_plainElem_string Trym.underlying9 hz)
    refine ⟨_, .inr ⟨bm, es.size, rfl, hown.lt, hown⟩, ?_⟩
    have h1 := hown.size_le
    have h2 := F.size
    unfold maxLen at h2
    omega

end Go.Proofs.Qxb6605622aMods
