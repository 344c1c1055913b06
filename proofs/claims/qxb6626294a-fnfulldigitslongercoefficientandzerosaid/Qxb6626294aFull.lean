import Derived.Test.Qxb6626294aProg
import Derived.WalkKit
import Derived.WalkSpells
import Derived.WalkLawsBesides
namespace Go.Proofs.Qxb6626294a
open Go.RowKit

theorem ret_int {k : IntKind} {a b : Int} (h : a = b) : Ending.returned (.int k a) = .returned (.int k b) := by rw [h]
theorem ret_bool {x y : Bool} (h : x = y) : Ending.returned (.bool x) = .returned (.bool y) := by rw [h]

/-- number.FullDigits, plainly -/
def fd (c e : Int) : Int := (if 0 < c then (if 1 ≤ c + e then c + e else 1) else 1) + (if 0 ≤ -e then -e else 0)

set_option maxHeartbeats 400000 in
theorem full_any (c e : Int) (c0 : 0 ≤ c) (c1 : c ≤ 4611686018427387905) (e0 : -2147483648 ≤ e) (e1 : e ≤ 2147483647) (w : World) :
    Calls Try.prog 5 #[.int .i64 c, .int .i32 e] w fun en w' => en = .returned (.int .i64 (fd c e)) ∧ w' = w := by
  by_cases h1 : 0 < c
  · by_cases h2 : 1 ≤ c + e
    · by_cases h3 : 0 ≤ -e
      · go_enter Try.func5, Try.ntmps5
        go_wp2
        go_ret
        exact ⟨ret_int (by unfold fd; (repeat' split) <;> omega), rfl⟩
      · go_enter Try.func5, Try.ntmps5
        go_wp2
        go_ret
        exact ⟨ret_int (by unfold fd; (repeat' split) <;> omega), rfl⟩
    · by_cases h3 : 0 ≤ -e
      · go_enter Try.func5, Try.ntmps5
        go_wp2
        go_ret
        exact ⟨ret_int (by unfold fd; (repeat' split) <;> omega), rfl⟩
      · exact absurd h2 (by omega)
  · by_cases h3 : 0 ≤ -e
    · go_enter Try.func5, Try.ntmps5
      go_wp2
      go_ret
      exact ⟨ret_int (by unfold fd; (repeat' split) <;> omega), rfl⟩
    · go_enter Try.func5, Try.ntmps5
      go_wp2
      go_ret
      exact ⟨ret_int (by unfold fd; (repeat' split) <;> omega), rfl⟩

theorem full_is (c e r : Int) (hr : fd c e = r) (c0 : 0 ≤ c) (c1 : c ≤ 4611686018427387905) (e0 : -2147483648 ≤ e) (e1 : e ≤ 2147483647) (w : World) :
    Calls Try.prog 5 #[.int .i64 c, .int .i32 e] w fun en w' => en = .returned (.int .i64 r) ∧ w' = w := by
  subst hr; exact full_any c e c0 c1 e0 e1 w

end Go.Proofs.Qxb6626294a
