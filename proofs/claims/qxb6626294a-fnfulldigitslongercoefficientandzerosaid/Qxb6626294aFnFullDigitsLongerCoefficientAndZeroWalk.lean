import Derived.Test.Qxb6626294aFull
import Derived.RowKit3
namespace Go.Proofs.Qxb6626294a
open Go.RowKit

set_option maxHeartbeats 400000 in
theorem law4_up (c e : Int) (c0 : 1 ≤ c) (c1 : c ≤ 4611686018427387904) (e0 : -2147483648 ≤ e) (e1 : e ≤ 2147483647) (h : 0 ≤ e) (w : World) :
    Calls Try.prog 4 #[.int .i64 c, .int .i32 e] w fun en w' => en = .returned (.bool true) ∧ Grown w w' := by
  have hc : (c == 0) = false := by simp; omega
  go_enter Try.func4, Try.ntmps4
  go_wp2_with fail
  refine (full_is 0 e (1) (by unfold fd; (repeat' split) <;> omega) (by omega) (by omega) (by omega) (by omega) _).mono ?_
  rintro en w1 ⟨rfl, rfl⟩
  go_wp2_with fail
  refine (full_is c e (c + e) (by unfold fd; (repeat' split) <;> omega) (by omega) (by omega) (by omega) (by omega) _).mono ?_
  rintro en w2 ⟨rfl, rfl⟩
  go_wp2_with fail
  refine (full_is (c + 1) e (c + e + 1) (by unfold fd; (repeat' split) <;> omega) (by omega) (by omega) (by omega) (by omega) _).mono ?_
  rintro en w3 ⟨rfl, rfl⟩
  go_wp2
  go_ret
  exact ⟨ret_bool (by simp), Grown.refl _⟩

set_option maxHeartbeats 400000 in
theorem law4_mid (c e : Int) (c0 : 1 ≤ c) (c1 : c ≤ 4611686018427387904) (e0 : -2147483648 ≤ e) (e1 : e ≤ 2147483647) (h : e < 0) (h2 : 1 ≤ c + e) (w : World) :
    Calls Try.prog 4 #[.int .i64 c, .int .i32 e] w fun en w' => en = .returned (.bool true) ∧ Grown w w' := by
  have hc : (c == 0) = false := by simp; omega
  go_enter Try.func4, Try.ntmps4
  go_wp2_with fail
  refine (full_is 0 e (1 - e) (by unfold fd; (repeat' split) <;> omega) (by omega) (by omega) (by omega) (by omega) _).mono ?_
  rintro en w1 ⟨rfl, rfl⟩
  go_wp2_with fail
  refine (full_is c e (c) (by unfold fd; (repeat' split) <;> omega) (by omega) (by omega) (by omega) (by omega) _).mono ?_
  rintro en w2 ⟨rfl, rfl⟩
  go_wp2_with fail
  refine (full_is (c + 1) e (c + 1) (by unfold fd; (repeat' split) <;> omega) (by omega) (by omega) (by omega) (by omega) _).mono ?_
  rintro en w3 ⟨rfl, rfl⟩
  go_wp2
  go_ret
  exact ⟨ret_bool (by simp), Grown.refl _⟩

set_option maxHeartbeats 400000 in
theorem law4_down (c e : Int) (c0 : 1 ≤ c) (c1 : c ≤ 4611686018427387904) (e0 : -2147483648 ≤ e) (e1 : e ≤ 2147483647) (h : e < 0) (h2 : c + e < 1) (w : World) :
    Calls Try.prog 4 #[.int .i64 c, .int .i32 e] w fun en w' => en = .returned (.bool true) ∧ Grown w w' := by
  have hc : (c == 0) = false := by simp; omega
  go_enter Try.func4, Try.ntmps4
  go_wp2_with fail
  refine (full_is 0 e (1 - e) (by unfold fd; (repeat' split) <;> omega) (by omega) (by omega) (by omega) (by omega) _).mono ?_
  rintro en w1 ⟨rfl, rfl⟩
  go_wp2_with fail
  refine (full_is c e (1 - e) (by unfold fd; (repeat' split) <;> omega) (by omega) (by omega) (by omega) (by omega) _).mono ?_
  rintro en w2 ⟨rfl, rfl⟩
  go_wp2_with fail
  refine (full_is (c + 1) e (1 - e) (by unfold fd; (repeat' split) <;> omega) (by omega) (by omega) (by omega) (by omega) _).mono ?_
  rintro en w3 ⟨rfl, rfl⟩
  go_wp2
  go_ret
  exact ⟨ret_bool (by simp), Grown.refl _⟩

set_option maxHeartbeats 400000 in
theorem law4_zup (e : Int) (e0 : -2147483648 ≤ e) (e1 : e ≤ 2147483647) (h : 0 ≤ e) (w : World) :
    Calls Try.prog 4 #[.int .i64 0, .int .i32 e] w fun en w' => en = .returned (.bool true) ∧ Grown w w' := by
  go_enter Try.func4, Try.ntmps4
  go_wp2_with fail
  refine (full_is 0 e (1) (by unfold fd; (repeat' split) <;> omega) (by omega) (by omega) (by omega) (by omega) _).mono ?_
  rintro en w1 ⟨rfl, rfl⟩
  go_wp2
  go_ret
  exact ⟨rfl, Grown.refl _⟩

set_option maxHeartbeats 400000 in
theorem law4_zdown (e : Int) (e0 : -2147483648 ≤ e) (e1 : e ≤ 2147483647) (h : e < 0) (w : World) :
    Calls Try.prog 4 #[.int .i64 0, .int .i32 e] w fun en w' => en = .returned (.bool true) ∧ Grown w w' := by
  go_enter Try.func4, Try.ntmps4
  go_wp2_with fail
  refine (full_is 0 e (1 - e) (by unfold fd; (repeat' split) <;> omega) (by omega) (by omega) (by omega) (by omega) _).mono ?_
  rintro en w1 ⟨rfl, rfl⟩
  go_wp2
  go_ret
  exact ⟨rfl, Grown.refl _⟩

set_option maxHeartbeats 400000 in
theorem law4_out (c e : Int) (h : c < 0 ∨ 4611686018427387904 < c) (w : World) :
    Calls Try.prog 4 #[.int .i64 c, .int .i32 e] w fun en w' => en = .returned (.bool true) ∧ Grown w w' := by
  rcases h with h | h
  · go_enter Try.func4, Try.ntmps4
    go_wp2
    go_ret
    exact ⟨rfl, Grown.refl _⟩
  · have h' : 0 ≤ c := by omega
    go_enter Try.func4, Try.ntmps4
    go_wp2
    go_ret
    exact ⟨rfl, Grown.refl _⟩

theorem law4_any (c e : Int) (we : (Lit.int .i32 e).wf = true) (w : World) :
    Calls Try.prog 4 #[.int .i64 c, .int .i32 e] w fun en w' => en = .returned (.bool true) ∧ Grown w w' := by
  have hb : -2147483648 ≤ e ∧ e ≤ 2147483647 := by simpa [Lit.wf, IntKind.min, IntKind.max, IntKind.bits, IntKind.signed] using we
  by_cases hc : 0 ≤ c ∧ c ≤ 4611686018427387904
  · by_cases h0 : c = 0
    · subst h0
      by_cases h : 0 ≤ e
      · exact law4_zup e hb.1 hb.2 h w
      · exact law4_zdown e hb.1 hb.2 (by omega) w
    · by_cases h : 0 ≤ e
      · exact law4_up c e (by omega) hc.2 hb.1 hb.2 h w
      · by_cases h2 : 1 ≤ c + e
        · exact law4_mid c e (by omega) hc.2 hb.1 hb.2 (by omega) h2 w
        · exact law4_down c e (by omega) hc.2 hb.1 hb.2 (by omega) (by omega) w
  · exact law4_out c e (by omega) w

end Go.Proofs.Qxb6626294a
