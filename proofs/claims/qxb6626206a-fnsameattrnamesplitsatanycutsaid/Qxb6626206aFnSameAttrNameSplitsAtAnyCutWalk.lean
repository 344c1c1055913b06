import Derived.Test.Qxb6626206aSame
import Derived.RowKit3
namespace Go.Proofs.Qxb6626206a
open Go.RowKit

/-- 'same name' of two Go strings -/
def sameS (a b : ByteArray) : Bool := Plain.sameB a.data.toList b.data.toList

theorem sameS_any (a b : ByteArray) (ha : a.size ≤ maxLen) (hb : b.size ≤ maxLen) (w : World) :
    Calls Try.prog 6 #[.string a, .string b] w fun e w' => e = .returned (.bool (sameS a b)) ∧ ∃ n, w' = w.drewN n :=
  same_any a b ha hb w

theorem sameS_is (a b : ByteArray) (ha : a.size ≤ maxLen) (hb : b.size ≤ maxLen) {r : Bool} (h : sameS a b = r) (w : World) :
    Calls Try.prog 6 #[.string a, .string b] w fun e w' => e = .returned (.bool r) ∧ ∃ n, w' = w.drewN n := by
  subst h; exact same_any a b ha hb w

theorem sameS_cut (a b : ByteArray) (k : Nat) :
    sameS a b = (sameS (a.extract 0 k) (b.extract 0 k) && sameS (a.extract k a.size) (b.extract k b.size)) := by
  unfold sameS
  rw [Plain.sameB_cut _ _ k]
  have e1 : ∀ s : ByteArray, (s.extract 0 k).data.toList = s.data.toList.take k := by intro s; simp
  have e2 : ∀ s : ByteArray, (s.extract k s.size).data.toList = s.data.toList.drop k := by
    intro s
    rw [ByteArray.data_extract, Array.toList_extract]
    simp
    exact List.take_of_length_le (by simp)
  rw [e1, e1, e2, e2]

theorem grown_drewN {W w : World} (h : Grown W w) (n : Nat) : Grown W (w.drewN n) := by
  induction n with
  | zero => exact h
  | succ n ih => exact ih

set_option maxHeartbeats 400000 in
theorem fits8_yes (a b : ByteArray) (k : Int) (h : a.size + b.size ≤ 1048576) (w : World) :
    Calls Try.prog 8 #[.string a, .string b, .int .i64 k] w fun e w' => e = .returned (.bool true) ∧ w' = w := by
  go_enter Try.func8, Try.ntmps8
  go_wp2
  go_ret
  exact ⟨rfl, rfl⟩

set_option maxHeartbeats 400000 in
theorem fits8_no (a b : ByteArray) (k : Int) (h : 1048576 < a.size + b.size) (ha : a.size ≤ maxLen) (hb : b.size ≤ maxLen) (w : World) :
    Calls Try.prog 8 #[.string a, .string b, .int .i64 k] w fun e w' => e = .returned (.bool false) ∧ w' = w := by
  unfold maxLen at ha hb
  by_cases h1 : a.size ≤ 1048576
  · by_cases h2 : b.size ≤ 1048576
    · go_enter Try.func8, Try.ntmps8
      go_wp2
      go_ret
      exact ⟨rfl, rfl⟩
    · go_enter Try.func8, Try.ntmps8
      go_wp2
      go_ret
      exact ⟨rfl, rfl⟩
  · go_enter Try.func8, Try.ntmps8
    go_wp2
    go_ret
    exact ⟨rfl, rfl⟩


set_option maxHeartbeats 400000 in
theorem law4_big (a b : ByteArray) (k : Int) (h : 1048576 < a.size + b.size) (ha : a.size ≤ maxLen) (hb : b.size ≤ maxLen) (w : World) :
    Calls Try.prog 4 #[.string a, .string b, .int .i64 k] w fun e w' => e = .returned (.bool true) ∧ Grown w w' := by
  go_enter Try.func4, Try.ntmps4
  go_wp2_with (go_at_call 8; refine (fits8_no _ _ _ h ha hb _).mono ?_; rintro e w' ⟨rfl, rfl⟩)
  go_ret
  exact ⟨rfl, Grown.refl _⟩

set_option maxHeartbeats 400000 in
theorem law4_out (a b : ByteArray) (k : Int) (h : a.size + b.size ≤ 1048576) (hk : ¬ (0 ≤ k ∧ k ≤ a.size ∧ k ≤ b.size)) (w : World) :
    Calls Try.prog 4 #[.string a, .string b, .int .i64 k] w fun e w' => e = .returned (.bool true) ∧ Grown w w' := by
  by_cases k1 : k < 0
  · go_enter Try.func4, Try.ntmps4
    go_wp2_with (go_at_call 8; refine (fits8_yes _ _ _ h _).mono ?_; rintro e w' ⟨rfl, rfl⟩)
    go_ret
    exact ⟨rfl, Grown.refl _⟩
  · by_cases k2 : (a.size : Int) < k
    · go_enter Try.func4, Try.ntmps4
      go_wp2_with (go_at_call 8; refine (fits8_yes _ _ _ h _).mono ?_; rintro e w' ⟨rfl, rfl⟩)
      go_ret
      exact ⟨rfl, Grown.refl _⟩
    · have k3 : (b.size : Int) < k := by omega
      clear hk
      go_enter Try.func4, Try.ntmps4
      go_wp2_with (go_at_call 8; refine (fits8_yes _ _ _ h _).mono ?_; rintro e w' ⟨rfl, rfl⟩)
      go_ret
      exact ⟨rfl, Grown.refl _⟩

set_option maxHeartbeats 800000 in
theorem law4_tt (a b : ByteArray) (m : Nat) (h : a.size + b.size ≤ 1048576) (hma : m ≤ a.size) (hmb : m ≤ b.size)
    (h1 : sameS (a.extract 0 m) (b.extract 0 m) = true) (h2 : sameS (a.extract m a.size) (b.extract m b.size) = true)
    (hw : sameS a b = true) (hc : sameS b a = true) (haa : sameS a a = true) (hbb : sameS b b = true) (w : World) :
    Calls Try.prog 4 #[.string a, .string b, .int .i64 m] w fun e w' => e = .returned (.bool true) ∧ Grown w w' := by
  have z1 : ∀ i j : Nat, (a.extract i j).size ≤ maxLen := by intro i j; unfold maxLen; simp; omega
  have z2 : ∀ i j : Nat, (b.extract i j).size ≤ maxLen := by intro i j; unfold maxLen; simp; omega
  have z3 : a.size ≤ maxLen := by unfold maxLen; omega
  have z4 : b.size ≤ maxLen := by unfold maxLen; omega
  go_enter Try.func4, Try.ntmps4
  go_wp2_with (first | (go_at_call 8; refine (fits8_yes _ _ _ h _).mono ?_; rintro e w' ⟨rfl, rfl⟩) | (go_at_call 6; refine (sameS_any _ _ z3 z4 _).mono ?_; rintro e w1 ⟨rfl, hw1⟩; have HW1 : Hid _ := hw1; clear hw1))
  go_quiet ((go_at_call 6; exact Calls.quiet_of (sameS_any _ _ (z1 _ _) (z2 _ _) _)))
  go_wp2_with fail
  refine (sameS_any _ _ z4 z3 _).mono ?_
  rintro e w2 ⟨rfl, hw2⟩; have HW2 : Hid _ := hw2; clear hw2
  go_wp2_with fail
  refine (sameS_any _ _ z3 z3 _).mono ?_
  rintro e w3 ⟨rfl, hw3⟩; have HW3 : Hid _ := hw3; clear hw3
  go_wp2_with fail
  refine (sameS_any _ _ z4 z4 _).mono ?_
  rintro e w4 ⟨rfl, hw4⟩; have HW4 : Hid _ := hw4; clear hw4
  go_wp2
  go_ret
  refine ⟨rfl, ?_⟩
  obtain ⟨n1, rfl⟩ := HW1.out
  obtain ⟨n2, rfl⟩ := HW2.out
  obtain ⟨n3, rfl⟩ := HW3.out
  obtain ⟨n4, rfl⟩ := HW4.out
  exact grown_drewN (grown_drewN (grown_drewN (grown_drewN (grown_drewN (Grown.refl _) _) _) _) _) _

set_option maxHeartbeats 800000 in
theorem law4_tf (a b : ByteArray) (m : Nat) (h : a.size + b.size ≤ 1048576) (hma : m ≤ a.size) (hmb : m ≤ b.size)
    (h1 : sameS (a.extract 0 m) (b.extract 0 m) = true) (h2 : sameS (a.extract m a.size) (b.extract m b.size) = false)
    (hw : sameS a b = false) (hc : sameS b a = false) (haa : sameS a a = true) (hbb : sameS b b = true) (w : World) :
    Calls Try.prog 4 #[.string a, .string b, .int .i64 m] w fun e w' => e = .returned (.bool true) ∧ Grown w w' := by
  have z1 : ∀ i j : Nat, (a.extract i j).size ≤ maxLen := by intro i j; unfold maxLen; simp; omega
  have z2 : ∀ i j : Nat, (b.extract i j).size ≤ maxLen := by intro i j; unfold maxLen; simp; omega
  have z3 : a.size ≤ maxLen := by unfold maxLen; omega
  have z4 : b.size ≤ maxLen := by unfold maxLen; omega
  go_enter Try.func4, Try.ntmps4
  go_wp2_with (first | (go_at_call 8; refine (fits8_yes _ _ _ h _).mono ?_; rintro e w' ⟨rfl, rfl⟩) | (go_at_call 6; refine (sameS_any _ _ z3 z4 _).mono ?_; rintro e w1 ⟨rfl, hw1⟩; have HW1 : Hid _ := hw1; clear hw1))
  go_quiet ((go_at_call 6; exact Calls.quiet_of (sameS_any _ _ (z1 _ _) (z2 _ _) _)))
  go_wp2_with fail
  refine (sameS_any _ _ z4 z3 _).mono ?_
  rintro e w2 ⟨rfl, hw2⟩; have HW2 : Hid _ := hw2; clear hw2
  go_wp2_with fail
  refine (sameS_any _ _ z3 z3 _).mono ?_
  rintro e w3 ⟨rfl, hw3⟩; have HW3 : Hid _ := hw3; clear hw3
  go_wp2_with fail
  refine (sameS_any _ _ z4 z4 _).mono ?_
  rintro e w4 ⟨rfl, hw4⟩; have HW4 : Hid _ := hw4; clear hw4
  go_wp2
  go_ret
  refine ⟨rfl, ?_⟩
  obtain ⟨n1, rfl⟩ := HW1.out
  obtain ⟨n2, rfl⟩ := HW2.out
  obtain ⟨n3, rfl⟩ := HW3.out
  obtain ⟨n4, rfl⟩ := HW4.out
  exact grown_drewN (grown_drewN (grown_drewN (grown_drewN (grown_drewN (Grown.refl _) _) _) _) _) _

set_option maxHeartbeats 800000 in
theorem law4_f (a b : ByteArray) (m : Nat) (h : a.size + b.size ≤ 1048576) (hma : m ≤ a.size) (hmb : m ≤ b.size)
    (h1 : sameS (a.extract 0 m) (b.extract 0 m) = false)
    (hw : sameS a b = false) (hc : sameS b a = false) (haa : sameS a a = true) (hbb : sameS b b = true) (w : World) :
    Calls Try.prog 4 #[.string a, .string b, .int .i64 m] w fun e w' => e = .returned (.bool true) ∧ Grown w w' := by
  have z1 : ∀ i j : Nat, (a.extract i j).size ≤ maxLen := by intro i j; unfold maxLen; simp; omega
  have z2 : ∀ i j : Nat, (b.extract i j).size ≤ maxLen := by intro i j; unfold maxLen; simp; omega
  have z3 : a.size ≤ maxLen := by unfold maxLen; omega
  have z4 : b.size ≤ maxLen := by unfold maxLen; omega
  go_enter Try.func4, Try.ntmps4
  go_wp2_with (first | (go_at_call 8; refine (fits8_yes _ _ _ h _).mono ?_; rintro e w' ⟨rfl, rfl⟩) | (go_at_call 6; refine (sameS_any _ _ z3 z4 _).mono ?_; rintro e w1 ⟨rfl, hw1⟩; have HW1 : Hid _ := hw1; clear hw1))
  go_quiet ((go_at_call 6; exact Calls.quiet_of (sameS_is _ _ (z1 _ _) (z2 _ _) h1 _)))
  go_wp2_with fail
  refine (sameS_any _ _ z4 z3 _).mono ?_
  rintro e w2 ⟨rfl, hw2⟩; have HW2 : Hid _ := hw2; clear hw2
  go_wp2_with fail
  refine (sameS_any _ _ z3 z3 _).mono ?_
  rintro e w3 ⟨rfl, hw3⟩; have HW3 : Hid _ := hw3; clear hw3
  go_wp2_with fail
  refine (sameS_any _ _ z4 z4 _).mono ?_
  rintro e w4 ⟨rfl, hw4⟩; have HW4 : Hid _ := hw4; clear hw4
  go_wp2
  go_ret
  refine ⟨rfl, ?_⟩
  obtain ⟨n1, rfl⟩ := HW1.out
  obtain ⟨n2, rfl⟩ := HW2.out
  obtain ⟨n3, rfl⟩ := HW3.out
  obtain ⟨n4, rfl⟩ := HW4.out
  exact grown_drewN (grown_drewN (grown_drewN (grown_drewN (grown_drewN (Grown.refl _) _) _) _) _) _

theorem law4_any (a b : ByteArray) (k : Int) (ha : a.size ≤ maxLen) (hb : b.size ≤ maxLen) (w : World) :
    Calls Try.prog 4 #[.string a, .string b, .int .i64 k] w fun e w' => e = .returned (.bool true) ∧ Grown w w' := by
  by_cases h : a.size + b.size ≤ 1048576
  · by_cases hk : 0 ≤ k ∧ k ≤ a.size ∧ k ≤ b.size
    · obtain ⟨m, rfl⟩ : ∃ m : Nat, k = m := ⟨k.toNat, by omega⟩
      have hcut := sameS_cut a b m
      have hc : sameS b a = sameS a b := Plain.sameB_comm _ _
      have haa : sameS a a = true := Plain.sameB_self _
      have hbb : sameS b b = true := Plain.sameB_self _
      rw [hcut] at hc
      cases h1 : sameS (a.extract 0 m) (b.extract 0 m)
      · rw [h1, Bool.false_and] at hcut hc
        exact law4_f a b m h (by omega) (by omega) h1 hcut hc haa hbb w
      · cases h2 : sameS (a.extract m a.size) (b.extract m b.size)
        · rw [h1, h2] at hcut hc
          exact law4_tf a b m h (by omega) (by omega) h1 h2 hcut hc haa hbb w
        · rw [h1, h2] at hcut hc
          exact law4_tt a b m h (by omega) (by omega) h1 h2 hcut hc haa hbb w
    · exact law4_out a b k h hk w
  · exact law4_big a b k (by omega) ha hb w

end Go.Proofs.Qxb6626206a
