import Derived.Test.Qxb6626206aSame
import Derived.Test.Qxb6626206aBits
import Derived.RowKit3
namespace Go.Proofs.Qxb6626206a
open Go.RowKit

theorem cb_eq {x y : Int} (h : (x == y) = true) : caseBit x y = true := by unfold caseBit; rw [h]; rfl
theorem cb_xor {x y : Int} (h : (x == y) = false) (h2 : (bits .xor .u8 x y != 32) = true) : caseBit x y = false := by
  unfold caseBit; rw [h]; simp only [bne_iff_ne, ne_eq] at h2; simp [h2]
theorem cb_or {x y : Int} (h : (x == y) = false) (h2 : bits .or .u8 x 32 < 97 ∨ 122 < bits .or .u8 x 32) : caseBit x y = false := by
  rw [Bool.eq_false_iff]; intro hc; unfold caseBit at hc; rw [h] at hc
  simp only [Bool.false_or, Bool.and_eq_true, decide_eq_true_eq] at hc; omega
theorem cb_yes {x y : Int} (h1 : (bits .xor .u8 x y != 32) = false) (h2 : 97 ≤ bits .or .u8 x 32 ∧ bits .or .u8 x 32 ≤ 122) : caseBit x y = true := by
  unfold caseBit
  have e : (bits .xor .u8 x y == 32) = true := by simpa using h1
  rw [e]; simp [h2.1, h2.2]

theorem low_of_cb {x y : UInt8} (h : caseBit (x.toNat : Int) (y.toNat : Int) = true) : (Plain.lowI (x.toNat : Int) != Plain.lowI (y.toNat : Int)) = false := by
  have := (caseBit_low x y).1 h
  simpa [Plain.low] using this
theorem ne_of_cb {x y : UInt8} (h : caseBit (x.toNat : Int) (y.toNat : Int) = false) : Plain.low x ≠ Plain.low y := by
  intro hc; rw [(caseBit_low x y).2 hc] at h; exact Bool.noConfusion h

set_option maxHeartbeats 400000 in
/-- the independent model, at strings of one length -/
theorem san_eq (a b : ByteArray) (ha : a.size ≤ maxLen) (hab : a.size = b.size) (w : World) :
    Calls Try.prog 7 #[.string a, .string b] w fun e w' => e = .returned (.bool (Plain.sameB a.data.toList b.data.toList)) ∧ w' = w := by
  unfold maxLen at ha
  have HAB : Hid (a.size = b.size) := hab
  have hab1 : ((a.size : Int) != (b.size : Int)) = false := by simp [hab]
  clear hab
  go_enter Try.func7, Try.ntmps7
  go_wp2
  go_loop [5] (fun i => ∃ k : Nat, k ≤ a.size ∧ i = .int .i64 k ∧ Hid ((a.data.toList.take k).map Plain.low = (b.data.toList.take k).map Plain.low)) (fun i => a.size - (intOf i).toNat)
  case atStart => exact ⟨0, Nat.zero_le _, rfl, rfl⟩
  case round =>
    obtain ⟨k, hk, rfl, HR⟩ := hrel
    by_cases hlt : k < a.size
    · have hltb : k < b.size := by rw [← HAB.out]; exact hlt
      go_wp2
      · go_round
        case rel => exact ⟨k + 1, by omega, by go_num, step_eq a b k hlt hltb HR.out (low_of_cb (cb_eq (by assumption)))⟩
        case measure => simp [intOf]; omega
      · go_ret
        exact ⟨ret_bool (Plain.sameB_ne (byte_at a k hlt) (byte_at b k hltb) (ne_of_cb (cb_xor (by assumption) (by assumption)))).symm, rfl⟩
      · go_ret
        exact ⟨ret_bool (Plain.sameB_ne (byte_at a k hlt) (byte_at b k hltb) (ne_of_cb (cb_or (by assumption) (by assumption)))).symm, rfl⟩
      · go_round
        case rel => exact ⟨k + 1, by omega, by go_num, step_eq a b k hlt hltb HR.out (low_of_cb (cb_yes (by assumption) (by assumption)))⟩
        case measure => simp [intOf]; omega
      · go_ret
        exact ⟨ret_bool (Plain.sameB_ne (byte_at a k hlt) (byte_at b k hltb) (ne_of_cb (cb_or (by assumption) (Or.inl (by assumption))))).symm, rfl⟩
    · go_wp2
      go_ret
      exact ⟨ret_bool (end_eq a b k (by omega) HAB.out HR.out).symm, rfl⟩

set_option maxHeartbeats 400000 in
theorem san_any (a b : ByteArray) (ha : a.size ≤ maxLen) (w : World) :
    Calls Try.prog 7 #[.string a, .string b] w fun e w' => e = .returned (.bool (Plain.sameB a.data.toList b.data.toList)) ∧ w' = w := by
  by_cases hab : a.size = b.size
  · exact san_eq a b ha hab w
  · have hab1 : ((a.size : Int) != (b.size : Int)) = true := by simp; omega
    have e : Plain.sameB a.data.toList b.data.toList = false := Plain.sameB_len (by simpa using hab)
    rw [e]
    clear e hab
    go_enter Try.func7, Try.ntmps7
    go_wp2
    go_ret
    exact ⟨rfl, rfl⟩

set_option maxHeartbeats 400000 in
theorem fits5_yes (a b : ByteArray) (h : a.size + b.size ≤ 1048576) (w : World) :
    Calls Try.prog 5 #[.string a, .string b] w fun e w' => e = .returned (.bool true) ∧ w' = w := by
  go_enter Try.func5, Try.ntmps5
  go_wp2
  go_ret
  exact ⟨rfl, rfl⟩

set_option maxHeartbeats 400000 in
theorem fits5_no (a b : ByteArray) (h : 1048576 < a.size + b.size) (ha : a.size ≤ maxLen) (hb : b.size ≤ maxLen) (w : World) :
    Calls Try.prog 5 #[.string a, .string b] w fun e w' => e = .returned (.bool false) ∧ w' = w := by
  unfold maxLen at ha hb
  by_cases h1 : a.size ≤ 1048576
  · by_cases h2 : b.size ≤ 1048576
    · go_enter Try.func5, Try.ntmps5
      go_wp2
      go_ret
      exact ⟨rfl, rfl⟩
    · go_enter Try.func5, Try.ntmps5
      go_wp2
      go_ret
      exact ⟨rfl, rfl⟩
  · go_enter Try.func5, Try.ntmps5
    go_wp2
    go_ret
    exact ⟨rfl, rfl⟩

theorem grown_draws {W w : World} (h : Grown W w) (n : Nat) : Grown W (w.drewN n) := by
  induction n with
  | zero => exact h
  | succ n ih => exact ih

set_option maxHeartbeats 400000 in
theorem law3_any (a b : ByteArray) (ha : a.size ≤ maxLen) (hb : b.size ≤ maxLen) (w : World) :
    Calls Try.prog 3 #[.string a, .string b] w fun e w' => e = .returned (.bool true) ∧ Grown w w' := by
  by_cases h : a.size + b.size ≤ 1048576
  · go_enter Try.func3, Try.ntmps3
    go_wp2_with fail
    refine (fits5_yes _ _ h _).mono ?_
    rintro e w' ⟨rfl, rfl⟩
    go_wp2_with fail
    refine (same_any _ _ ha hb _).mono ?_
    rintro e w1 ⟨rfl, hw1⟩; have HW1 : Hid _ := hw1; clear hw1
    go_wp2_with fail
    refine (san_any _ _ ha _).mono ?_
    rintro e w2 ⟨rfl, rfl⟩
    go_wp2
    go_ret
    obtain ⟨n, rfl⟩ := HW1.out
    exact ⟨ret_bool (by simp), grown_draws (Grown.refl _) _⟩
  · go_enter Try.func3, Try.ntmps3
    go_wp2_with (go_at_call 5; refine (fits5_no _ _ (by omega) ha hb _).mono ?_; rintro e w' ⟨rfl, rfl⟩)
    go_ret
    exact ⟨rfl, Grown.refl _⟩

end Go.Proofs.Qxb6626206a
