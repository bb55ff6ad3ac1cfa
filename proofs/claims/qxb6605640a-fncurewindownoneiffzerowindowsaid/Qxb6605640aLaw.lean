/-
  FnCureWindowNoneIffZeroWindow: the walk.
-/
import Derived.Test.Qxb6605640aRows
import Derived.WalkKit
import Derived.WalkSpells
import Derived.WalkLawsBesides
namespace Go.Proofs.Qxb6605640a
open Go.RowKit

/-- Some bool comes back. -/
def RetB (e : Ending) : Prop := ∃ x, e = .returned (.bool x)
set_option maxHeartbeats 400000 in
theorem bytes_any (n : Int) (s : ByteArray) (w : World) (hs : s.size ≤ maxLen) :
    Calls Try.prog 4 #[.int .i64 n, .string s] w fun e w' => RetB e ∧ w' = w := by
  unfold maxLen at hs
  go_enter Try.func4, Try.ntmps4
  go_wp2
  all_goals (go_ret; exact ⟨⟨_, rfl⟩, rfl⟩)

set_option maxHeartbeats 400000 in
theorem none_any (n : Int) (s : ByteArray) (w : World) :
    Calls Try.prog 5 #[.agg #[.int .i64 n, .string s]] w fun e w' => e = .returned (.bool (n == 0)) ∧ w' = w.alloc (.cells #[.int .i64 n, .string s] 25) := by
  go_enter Try.func5, Try.ntmps5
  go_wp2
  go_ret
  exact ⟨rfl, rfl⟩

theorem four_new (w : World) (a b c d : Obj) : Below w.heap.size w ((((w.alloc a).alloc b).alloc c).alloc d) :=
  ((((Below.refl _ _).alloc (Nat.le_refl _) _).alloc (by simp) _).alloc (by simp; omega) _).alloc (by simp; omega) _

set_option maxHeartbeats 400000 in
theorem law_any (n : Int) (s : ByteArray) (w : World) (hs : s.size ≤ maxLen) :
    Calls Try.prog 3 #[.int .i64 n, .string s] w fun e w' => e = .returned (.bool true) ∧ Below w.heap.size w w' := by
  have hs' : s.size ≤ 9223372036854775807 := by unfold maxLen at hs; omega
  go_enter Try.func3, Try.ntmps3
  go_wp2_with fail
  refine (bytes_any n s w hs).mono ?_
  rintro e w1 ⟨⟨x, rfl⟩, hw⟩
  subst hw
  cases x
  · go_wp2
    go_ret
    exact ⟨rfl, Below.refl _ _⟩
  by_cases hbig : 65536 < s.size
  · go_wp2
    go_ret
    exact ⟨rfl, Below.refl _ _⟩
  go_wp2_with fail
  refine (none_any n s _).mono ?_
  rintro e w2 ⟨rfl, rfl⟩
  go_wp2_with fail
  refine (none_any n _ _).mono ?_
  rintro e w2 ⟨rfl, rfl⟩
  by_cases h0 : n = 0
  · subst h0
    go_wp2
    go_ret
    exact ⟨rfl, four_new _ _ _ _ _⟩
  · have hne : (n == 0) = false := by simpa using h0
    go_wp2
    go_ret
    exact ⟨rfl, four_new _ _ _ _ _⟩

end Go.Proofs.Qxb6605640a
