/-
  SEAT b6605622aM: (*scriptCall).hash (28) and its door ZZHash (10).
-/
import Derived.Test.Qxb6605622aModsSmall
import Derived.Deep.RegionLaw
import Derived.Deep.AppendLies
import Derived.Deep.DeepCutAuto
import Derived.Deep.DrawnRows
import Derived.Sort.KeysCollected
import Derived.Sort.OwnSorted
import Derived.Maps.RangeWalk
namespace Go.Proofs.Qxb6605622aMods
open Go.RowKit Go.Maps
variable {H : Type}
attribute [local go_sem ↓] Go.wp_at_zero Go.wp_at_succ

theorem Trym.info20 : (Trym.prog.info? 20).map (fun i => (i.zero, i.size, i.bytes)) = some (some .nilIface, 1, 16) := by kernel_rfl
theorem law9 : Keyed Trym.prog 9 := string_keyed Trym.underlying9

/-- The entries as they are laid out: field, value, field, value. -/
def pairs (L : List (List UInt8 × List UInt8)) : List Value := L.flatMap fun p => [.iface 9 (.string ⟨p.1.toArray⟩), .iface 9 (.string ⟨p.2.toArray⟩)]

theorem pairs_snoc (L : List (List UInt8 × List UInt8)) (p : List UInt8 × List UInt8) : pairs (L ++ [p]) = pairs L ++ [.iface 9 (.string ⟨p.1.toArray⟩), .iface 9 (.string ⟨p.2.toArray⟩)] := by
  simp [pairs]

theorem pairs_length (L : List (List UInt8 × List UInt8)) : (pairs L).length = 2 * L.length := by
  induction L with
  | nil => rfl
  | cons p L ih => simp [pairs] at *; omega

/-- THE CALL's OBJECT IN MEMORY: block sb holds the keys and the arguments' slice, which owns xs, behind sb. -/
structure Sc (w : World) (sb : Nat) (kv av : Value) (n : Nat) (xs : List Value) : Prop where
  c0 : w.cell? ⟨sb, 0, none⟩ = some kv
  c1 : w.cell? ⟨sb, 1, none⟩ = some av
  fz : w.frozen? ⟨sb, 1, none⟩ = false
  own : w.ownsRow (sb + 1) 20 1 av n xs

section
variable {w w' : World} {sb n m : Nat} {kv av v' : Value} {xs news : List Value}

theorem Sc.lt (h : Sc w sb kv av n xs) : sb < w.heap.size := World.block_lt_of_cell? _ _ h.c0

theorem Sc.kept {row : Option Nat} (h : Sc w sb kv av n xs) (hg : w.grownBy w' row) (hs : some sb ≠ row) (hr : av.ownBlock = none ∨ av.ownBlock ≠ row) : Sc w' sb kv av n xs :=
  ⟨by rw [hg.cell_far ⟨sb, 0, none⟩ h.lt hs]; exact h.c0, by rw [hg.cell_far ⟨sb, 1, none⟩ h.lt hs]; exact h.c1, by rw [hg.frozen_far ⟨sb, 1, none⟩ h.lt hs]; exact h.fz, h.own.kept hg hr⟩

theorem Sc.alloc (h : Sc w sb kv av n xs) (o : Obj) : Sc (w.alloc o) sb kv av n xs := h.kept (World.grownBy_alloc w o none) (by simp) (by cases av.ownBlock <;> simp)
theorem Sc.drew (h : Sc w sb kv av n xs) : Sc w.drew sb kv av n xs := ⟨h.c0, h.c1, h.fz, h.own⟩

/-- Behind an append and the store of the new slice. -/
theorem Sc.stored (h : Sc w sb kv av n xs) (hg : w.grownBy w' av.ownBlock) (hown : w'.ownsRow (sb + 1) 20 1 v' (n + m) (xs ++ news)) : Sc (w'.setCell ⟨sb, 1, none⟩ v') sb kv v' (n + m) (xs ++ news) := by
  have hs : some sb ≠ av.ownBlock := row_ne_low h.own (Nat.lt_succ_self _)
  have e0 : w'.cell? ⟨sb, 0, none⟩ = some kv := by rw [hg.cell_far ⟨sb, 0, none⟩ h.lt hs]; exact h.c0
  have e1 : w'.cell? ⟨sb, 1, none⟩ = some av := by rw [hg.cell_far ⟨sb, 1, none⟩ h.lt hs]; exact h.c1
  have e2 : w'.frozen? ⟨sb, 1, none⟩ = false := by rw [hg.frozen_far ⟨sb, 1, none⟩ h.lt hs]; exact h.fz
  refine ⟨?_, ?_, by rw [World.frozen?_setCell]; exact e2, ownsRow_setCell_below hown (Nat.lt_succ_self _) _⟩
  · rw [World.cell?_setCell_other _ _ _ _ (by simp)]; exact e0
  · exact World.cell?_setCell_same _ _ _ e1

end

/-- The object laid, in a world in which nothing below it has turned. -/
def Laid (w0 : World) (sb : Nat) (kv : Value) (n : Nat) (xs : List Value) (w : World) : Prop := ∃ av, Sc w sb kv av n xs ∧ Below sb w0 w

/-- A map that came in, nil or not, reads as D; it lies below block B. -/
def MapIs (w : World) (B : Nat) (mv : Value) (D : DataW H) : Prop :=
  (mv = .map none ∧ D = .map []) ∨ ∃ b n, mv = .map (some b) ∧ b < B ∧ w.ownsMap Trym.prog 9 (plainElem Trym.prog 9) b n D

theorem MapIs.below {w w' : World} {B B' : Nat} {mv : Value} {D : DataW H} (h : MapIs w B mv D) (hb : Below B' w w') (hB : B ≤ B') : MapIs w' B mv D := by
  rcases h with h | ⟨b, n, rfl, hlt, es, clock, hh, F, hs, hD⟩
  · exact .inl h
  · exact .inr ⟨b, n, rfl, hlt, es, clock, (hb.block b (by omega)).trans hh, F, hs, hD⟩

theorem MapIs.mono {w : World} {B B' : Nat} {mv : Value} {D : DataW H} (h : MapIs w B mv D) (hB : B ≤ B') : MapIs w B' mv D := by
  rcases h with h | ⟨b, n, rfl, hlt, hown⟩
  · exact .inl h
  · exact .inr ⟨b, n, rfl, by omega, hown⟩

theorem MapIs.len {w : World} {B : Nat} {mv : Value} {D : DataW H} (h : MapIs w B mv D) : (Builtin.len_ #[23] 3 #[mv]).run Trym.prog w = .ok (.int .i64 (Maps.size D)) w := by
  rcases h with ⟨rfl, rfl⟩ | ⟨b, n, rfl, hlt, hown⟩
  · exact Maps.len_nil Trym.underlying23 3
  · exact hown.len Trym.underlying23 3

/-- What an append onto the arguments' slice leaves, ahead of the store. -/
structure Appended (W W' : World) (sb n m : Nat) (av v' : Value) (xs news : List Value) : Prop where
  own : W'.ownsRow (sb + 1) 20 1 v' (n + m) (xs ++ news)
  grown : W.grownBy W' av.ownBlock
  c1 : W'.cell? ⟨sb, 1, none⟩ = some av
  fz : W'.frozen? ⟨sb, 1, none⟩ = false

theorem appended_of {W W' : World} {sb n m : Nat} {kv av v' : Value} {xs news : List Value} (hS : Sc W sb kv av n xs) (hg : W.grownBy W' av.ownBlock) (hown : W'.ownsRow (sb + 1) 20 1 v' (n + m) (xs ++ news)) : Appended W W' sb n m av v' xs news :=
  have hne : some sb ≠ av.ownBlock := row_ne_low hS.own (Nat.lt_succ_self _)
  ⟨hown, hg, (hg.cell_far ⟨sb, 1, none⟩ hS.lt hne).trans hS.c1, (hg.frozen_far ⟨sb, 1, none⟩ hS.lt hne).trans hS.fz⟩

theorem run_appended (ty : TypeId) {W : World} {sb n m B : Nat} {kv av : Value} {xs : List Value} {cs : Array Value} (hS : Sc W sb kv av n xs) (hB : W.heap[B]? = some (.cells cs 20 (0, 0))) (hm : cs.size = m) (hm0 : 0 < m) (h1 : ∀ u ∈ cs.toList, u.oneCell' = true) (hn : n + m ≤ 200000) :
    ∃ g cap W', (Builtin.append_ #[64, 64] ty #[av, .slice (some ⟨B, 0, none⟩) m m]).run Trym.prog W = .ok (.slice (some ⟨g, 0, none⟩) (n + m) cap) W' ∧ Appended W W' sb n m av (.slice (some ⟨g, 0, none⟩) (n + m) cap) xs cs.toList := by
  obtain ⟨i0, hi0, hz0, hz1, hz2⟩ := info_parts Trym.info20
  have hlt := hS.lt
  obtain ⟨g, cap, W', hr, ho, hg, _, _⟩ := run_append_lies (P := Trym.prog) W 64 ty (sb + 1) 20 i0 _ 1 16 Trym.underlying64 hi0 hz0 hz1 hz2 rfl (by omega) av n xs hS.own ⟨B, 0, none⟩ m m cs.toList (by simpa using hm) (World.news_of_block hB) h1 hm0 (by unfold maxLen; omega) (by omega) (by omega) _ rfl
  exact ⟨g, cap, W', hr, appended_of hS hg ho⟩

/-- 's.args = append(s.args, x)' as one step of the region that draws. -/
theorem step_head {ops : Array Oper} {dst : Option Tmp} {ty : TypeId} {pos : String} {after : Array Edge} {a : Act} {W : World} {K : Act → World → Prop} {Q : Exit → Act → World → Prop} {E : Prop} {sb n B : Nat} {kv av z : Value} {xs : List Value}
    (hs : a.eval (.tmp 10) = av) (hx : a.eval (.tmp 15) = .slice (some ⟨B, 0, none⟩) 1 1) (hS : Sc W sb kv av n xs) (hB : W.heap[B]? = some (.cells #[z] 20 (0, 0))) (h1 : z.oneCell' = true) (hn : n ≤ 100000)
    (hK : ∀ g cap W', W'.cell? ⟨sb, 1, none⟩ = some av → W'.frozen? ⟨sb, 1, none⟩ = false → Appended W W' sb n 1 av (.slice (some ⟨g, 0, none⟩) (n + 1) cap) xs [z] → K (a.put dst (.slice (some ⟨g, 0, none⟩) (n + 1) cap)) W') :
    if Region.wanted { dst := dst, op := Op.call { callee := Callee.builtin Builtin.append, args := #[.tmp 10, .tmp 15], argTypes := #[64, 64] }, type := ty, pos := pos, after := after, guard := none } (yielded ops a.tmps) = true then
      Oper.wp Trym.prog { dst := dst, op := Op.call { callee := Callee.builtin Builtin.append, args := #[.tmp 10, .tmp 15], argTypes := #[64, 64] }, type := ty, pos := pos, after := after, guard := none } a W K Q else E := by
  rw [if_pos (by simp [Region.wanted])]
  obtain ⟨g, cap, W', hrun, hA⟩ := run_appended ty hS hB rfl (by simp) (by simpa using h1) (by simp; omega)
  unfold Oper.wp
  simp only [List.size_toArray, List.length_cons, List.length_nil, Nat.zero_add] at hrun
  simp [execOp, resolve, invoke, builtin, hs, hx, hrun, Result.andThen]
  exact hK g cap W' hA.c1 hA.fz hA

theorem grown_set (w : World) (b i : Nat) (v : Value) : w.grownBy (w.setCell ⟨b, i, none⟩ v) (some b) :=
  ⟨rfl, rfl, rfl, by simp [World.setCell], fun k _ hk => Below.heap_setCell _ _ _ _ (fun e => hk (by simp [e]))⟩

theorem Appended.below {w0 W W' : World} {sb n m : Nat} {kv av v' : Value} {xs news : List Value} (hS : Sc W sb kv av n xs) (h : Appended W W' sb n m av v' xs news) (hb : Below sb w0 W) : Below sb w0 (W'.setCell ⟨sb, 1, none⟩ v') :=
  (hb.grown h.grown (Nat.le_of_lt hS.lt) (fun k hk => by have := (hS.own.lt k hk).1; omega)).setCell (Nat.le_refl _) _

/-- The append of a field and its value, at the list of a region that does not draw. -/
theorem list_pair {ops : Array Oper} {rest : List Oper} {dst : Option Tmp} {ty : TypeId} {pos : String} {after : Array Edge} {a : Act} {W : World} {Q : Exit → Act → World → Prop} {sb n B : Nat} {kv av y z : Value} {xs : List Value}
    (hs : a.eval (.tmp 30) = av) (hx : a.eval (.tmp 35) = .slice (some ⟨B, 0, none⟩) 2 2) (hS : Sc W sb kv av n xs) (hB : W.heap[B]? = some (.cells #[y, z] 20 (0, 0))) (h1 : y.oneCell' = true ∧ z.oneCell' = true) (hn : n ≤ 150000)
    (hK : ∀ g cap W', W'.cell? ⟨sb, 1, none⟩ = some av → W'.frozen? ⟨sb, 1, none⟩ = false → Appended W W' sb n 2 av (.slice (some ⟨g, 0, none⟩) (n + 2) cap) xs [y, z] → wpList Trym.prog ops Q rest (a.put dst (.slice (some ⟨g, 0, none⟩) (n + 2) cap)) W') :
    wpList Trym.prog ops Q ({ dst := dst, op := Op.call { callee := Callee.builtin Builtin.append, args := #[.tmp 30, .tmp 35], argTypes := #[64, 64] }, type := ty, pos := pos, after := after, guard := none } :: rest) a W := by
  refine wpList_plain rfl fun K' hK' => ?_
  obtain ⟨g, cap, W', hrun, hA⟩ := run_appended ty hS hB rfl (by simp) (by simpa using h1) (by simp; omega)
  unfold Oper.wp
  simp only [List.size_toArray, List.length_cons, List.length_nil, Nat.zero_add, Nat.reduceAdd] at hrun hA
  simp [execOp, resolve, invoke, builtin, hs, hx, hrun, Result.andThen]
  exact hK' _ _ (hK g cap W' hA.c1 hA.fz hA)

/-- L lists the entries of D, each once. -/
structure Entries (D : DataW H) (L : List (List UInt8 × List UInt8)) : Prop where
  len : L.length = Maps.size D
  nodup : (L.map Prod.fst).Nodup
  at_ : ∀ p ∈ L, p.1.length ≤ maxLen ∧ ∀ zd, D.atKey (.string p.1) zd = .lit (.string p.2)

/-- How many values follow, as the first of them says. -/
def cntV (D : DataW H) : Value := .iface 3 (.int .i64 (2 * (Maps.size D : Int)))

/-- WHAT hash LEAVES. -/
def Hashed (w0 : World) (sb : Nat) (kv : Value) (n : Nat) (xs : List Value) (D : DataW H) (w : World) : Prop :=
  ∃ L, Entries D L ∧ Laid w0 sb kv (n + 1 + 2 * L.length) (xs ++ [cntV D] ++ pairs L) w

theorem size_strKeys (D : DataW H) (es : List (Lit × DataW H)) (h : D = .map es) : (strKeys D).length = Maps.size D := by
  subst h
  simp [strKeys, Maps.size]

end Go.Proofs.Qxb6605622aMods
