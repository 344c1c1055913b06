import Derived.Test.Qxb6626294aFull
import Derived.RowKit3
namespace Go.Proofs.Qxb6626294a
open Go.RowKit

set_option maxHeartbeats 400000 in
theorem law3_up (c e : Int) (c0 : 1 ≤ c) (c1 : c ≤ 4611686018427387904) (e0 : 0 < e) (e1 : e ≤ 2147483647) (w : World) :
    Calls Try.prog 3 #[.int .i64 c, .int .i32 e] w fun en w' => en = .returned (.bool true) ∧ Grown w w' := by
  go_enter Try.func3, Try.ntmps3
  go_wp2_with fail
  refine (full_is c e (c + e) (by unfold fd; (repeat' split) <;> omega) (by omega) (by omega) (by omega) (by omega) _).mono ?_
  rintro en w1 ⟨rfl, rfl⟩
  go_wp2_with fail
  refine (full_is (c + 1) (e - 1) (c + e) (by unfold fd; (repeat' split) <;> omega) (by omega) (by omega) (by omega) (by omega) _).mono ?_
  rintro en w2 ⟨rfl, rfl⟩
  go_wp2
  go_ret
  exact ⟨ret_bool (by simp), Grown.refl _⟩

set_option maxHeartbeats 400000 in
theorem law3_mid (c e : Int) (c0 : 1 ≤ c) (c1 : c ≤ 4611686018427387904) (e0 : -2147483647 ≤ e) (e1 : e ≤ 0) (h : 1 ≤ c + e) (w : World) :
    Calls Try.prog 3 #[.int .i64 c, .int .i32 e] w fun en w' => en = .returned (.bool true) ∧ Grown w w' := by
  go_enter Try.func3, Try.ntmps3
  go_wp2_with fail
  refine (full_is c e c (by unfold fd; (repeat' split) <;> omega) (by omega) (by omega) (by omega) (by omega) _).mono ?_
  rintro en w1 ⟨rfl, rfl⟩
  go_wp2_with fail
  refine (full_is (c + 1) (e - 1) (c + 1) (by unfold fd; (repeat' split) <;> omega) (by omega) (by omega) (by omega) (by omega) _).mono ?_
  rintro en w2 ⟨rfl, rfl⟩
  go_wp2
  go_ret
  exact ⟨ret_bool (by simp), Grown.refl _⟩

set_option maxHeartbeats 400000 in
theorem law3_down (c e : Int) (c0 : 1 ≤ c) (c1 : c ≤ 4611686018427387904) (e0 : -2147483647 ≤ e) (e1 : e ≤ 0) (h : c + e < 1) (w : World) :
    Calls Try.prog 3 #[.int .i64 c, .int .i32 e] w fun en w' => en = .returned (.bool true) ∧ Grown w w' := by
  go_enter Try.func3, Try.ntmps3
  go_wp2_with fail
  refine (full_is c e (1 - e) (by unfold fd; (repeat' split) <;> omega) (by omega) (by omega) (by omega) (by omega) _).mono ?_
  rintro en w1 ⟨rfl, rfl⟩
  go_wp2_with fail
  refine (full_is (c + 1) (e - 1) (1 - e + 1) (by unfold fd; (repeat' split) <;> omega) (by omega) (by omega) (by omega) (by omega) _).mono ?_
  rintro en w2 ⟨rfl, rfl⟩
  go_wp2
  go_ret
  exact ⟨ret_bool (by simp), Grown.refl _⟩

set_option maxHeartbeats 400000 in
theorem law3_out (c e : Int) (h : c < 1 ∨ 4611686018427387904 < c) (w : World) :
    Calls Try.prog 3 #[.int .i64 c, .int .i32 e] w fun en w' => en = .returned (.bool true) ∧ Grown w w' := by
  rcases h with h | h
  · go_enter Try.func3, Try.ntmps3
    go_wp2
    go_ret
    exact ⟨rfl, Grown.refl _⟩
  · have h' : 1 ≤ c := by omega
    go_enter Try.func3, Try.ntmps3
    go_wp2
    go_ret
    exact ⟨rfl, Grown.refl _⟩

set_option maxHeartbeats 400000 in
theorem law3_least (c : Int) (c0 : 1 ≤ c) (c1 : c ≤ 4611686018427387904) (w : World) :
    Calls Try.prog 3 #[.int .i64 c, .int .i32 (-2147483648)] w fun en w' => en = .returned (.bool true) ∧ Grown w w' := by
  go_enter Try.func3, Try.ntmps3
  go_wp2
  go_ret
  exact ⟨rfl, Grown.refl _⟩

theorem law3_any (c e : Int) (we : (Lit.int .i32 e).wf = true) (w : World) :
    Calls Try.prog 3 #[.int .i64 c, .int .i32 e] w fun en w' => en = .returned (.bool true) ∧ Grown w w' := by
  have hb : -2147483648 ≤ e ∧ e ≤ 2147483647 := by simpa [Lit.wf, IntKind.min, IntKind.max, IntKind.bits, IntKind.signed] using we
  by_cases hc : 1 ≤ c ∧ c ≤ 4611686018427387904
  · by_cases hl : e = -2147483648
    · subst hl; exact law3_least c hc.1 hc.2 w
    · by_cases h1 : 0 < e
      · exact law3_up c e hc.1 hc.2 h1 hb.2 w
      · by_cases h2 : 1 ≤ c + e
        · exact law3_mid c e hc.1 hc.2 (by omega) (by omega) h2 w
        · exact law3_down c e hc.1 hc.2 (by omega) (by omega) (by omega) w
  · exact law3_out c e (by omega) w

end Go.Proofs.Qxb6626294a
