/-
  THE SHARED CALLEES of seat b6605604aM: childPath (17), its door ZZchildPath (9).
-/
import Derived.Test.Qxb6605604aModsRows
import Derived.Test.Qxb6605604aModsPlain
import Derived.WalkKit
import Derived.WalkSpells
import Derived.WalkLawsBesides
namespace Go.Proofs.Qxb6605604aMods
open Go.RowKit


set_option maxHeartbeats 400000 in
theorem child_top (p q : ByteArray) (w : World) (hp : p.toList.isEmpty = true) :
    Calls Trym.prog 17 #[.string p, .string q] w fun e w' => e = .returned (.string q) ∧ w' = w := by
  go_enter Trym.func17, Trym.ntmps17
  go_wp2
  go_ret
  exact ⟨rfl, rfl⟩

set_option maxHeartbeats 400000 in
theorem child_deep (p q : ByteArray) (w : World) (hp : p.toList.isEmpty = false) (hs : p.size + q.size ≤ 4194304) :
    Calls Trym.prog 17 #[.string p, .string q] w fun e w' => e = .returned (.string (p ++ slash ++ q)) ∧ w' = w := by
  go_enter Trym.func17, Trym.ntmps17
  go_wp2
  go_ret
  exact ⟨rfl, rfl⟩

set_option maxHeartbeats 400000 in
theorem door_top (p q : ByteArray) (w : World) (hp : p.toList.isEmpty = true) :
    Calls Trym.prog 9 #[.string p, .string q] w fun e w' => e = .returned (.string q) ∧ w' = w := by
  go_enter Trym.func9, Trym.ntmps9
  go_wp2_with (go_at_call 17; refine (child_top _ _ _ hp).mono ?_; rintro e w' ⟨rfl, rfl⟩)
  go_ret
  exact ⟨rfl, rfl⟩

set_option maxHeartbeats 400000 in
theorem door_deep (p q : ByteArray) (w : World) (hp : p.toList.isEmpty = false) (hs : p.size + q.size ≤ 4194304) :
    Calls Trym.prog 9 #[.string p, .string q] w fun e w' => e = .returned (.string (p ++ slash ++ q)) ∧ w' = w := by
  go_enter Trym.func9, Trym.ntmps9
  go_wp2_with (go_at_call 17; refine (child_deep _ _ _ hp hs).mono ?_; rintro e w' ⟨rfl, rfl⟩)
  go_ret
  exact ⟨rfl, rfl⟩

end Go.Proofs.Qxb6605604aMods
