import Derived.Test.Qxb6626233aKey
import Derived.Test.Qxb6626233aFold
namespace Go.Proofs.Qxb6626233a
open Go.RowKit

set_option maxHeartbeats 400000 in
theorem fits5_yes (a : ByteArray) (k : Int) (h : a.size ≤ 1048576) (w : World) :
    Calls Try.prog 5 #[.string a, .int .i64 k] w fun e w' => e = .returned (.bool true) ∧ w' = w := by
  go_enter Try.func5, Try.ntmps5
  go_wp2
  go_ret
  exact ⟨rfl, rfl⟩

set_option maxHeartbeats 400000 in
theorem fits5_no (a : ByteArray) (k : Int) (h : 1048576 < a.size) (w : World) :
    Calls Try.prog 5 #[.string a, .int .i64 k] w fun e w' => e = .returned (.bool false) ∧ w' = w := by
  go_enter Try.func5, Try.ntmps5
  go_wp2
  go_ret
  exact ⟨rfl, rfl⟩

theorem below_draws {B : Nat} {a w : World} (h : Below B a w) (n : Nat) : Below B a (w.drewN n) := ⟨h.os, h.tape, h.output, h.size, h.block⟩

theorem cut_eq (s : ByteArray) (m : Nat) : ((Plain.lowS s).toList == (Plain.lowS (s.extract 0 m) ++ Plain.lowS (s.extract m s.size)).toList) = true := by
  have e1 : (s.extract 0 m).data.toList = s.data.toList.take m := by simp
  have e2 : (s.extract m s.size).data.toList = s.data.toList.drop m := by
    rw [ByteArray.data_extract, Array.toList_extract]
    simp
    exact List.take_of_length_le (by simp)
  rw [beq_iff_eq, ByteArray.toList_eq, ByteArray.toList_eq, ByteArray.data_append, Array.toList_append, Plain.lowS_data, Plain.lowS_data, Plain.lowS_data, e1, e2, Plain.lowL_cut]

theorem folds_low (s : ByteArray) (hs : s.size ≤ maxLen) (w : World) :
    Calls Try.prog 7 #[.string (Plain.lowS s), .string s] w fun e w' => e = .returned (.bool true) ∧ ∃ n, w' = w.drewN n := by
  refine folds_yes _ _ (by rw [Plain.lowS_size]; exact hs) (Plain.lowS_size s) ?_ ?_ w
  · intro k h
    have h' : k < s.size := by rw [Plain.lowS_size] at h; exact h
    rw [Plain.lowS_at s k h' h]
    have := Plain.lowB_no_upper s[k]
    omega
  · intro k h h'
    rw [Plain.lowS_at s k h' h]
    exact caseBit_lowB _

set_option maxHeartbeats 400000 in
theorem law3_in (s : ByteArray) (m : Nat) (h : s.size ≤ 1048576) (hm : m ≤ s.size) (w : World) :
    Calls Try.prog 3 #[.string s, .int .i64 m] w fun e w' => e = .returned (.bool true) ∧ Below w.heap.size w w' := by
  have hs : s.size ≤ maxLen := by unfold maxLen; omega
  have z : ∀ i j : Nat, (s.extract i j).size ≤ maxLen := by intro i j; unfold maxLen; simp; omega
  have q : ∀ i j : Nat, (Plain.lowS (s.extract i j)).size ≤ 1048576 := by intro i j; rw [Plain.lowS_size]; simp; omega
  have q1 := q 0 m
  have q2 := q m s.size
  have hcut := cut_eq s m
  clear q
  go_enter Try.func3, Try.ntmps3
  go_wp2_with fail
  refine (fits5_yes _ _ h _).mono ?_
  rintro e w0 ⟨rfl, rfl⟩
  go_wp2_with fail
  refine (zz_any s hs _).mono ?_
  rintro e w1 ⟨rfl, hb1⟩
  go_wp2_with fail
  refine (zz_any (s.extract 0 m) (z _ _) _).mono ?_
  rintro e w2 ⟨rfl, hb2⟩
  go_wp2_with fail
  refine (zz_any (s.extract m s.size) (z _ _) _).mono ?_
  rintro e w3 ⟨rfl, hb3⟩
  go_wp2_with fail
  refine (folds_low s hs _).mono ?_
  rintro e w4 ⟨rfl, hw4⟩; have HW4 : Hid _ := hw4; clear hw4
  go_wp2
  go_ret
  obtain ⟨n, rfl⟩ := HW4.out
  exact ⟨rfl, below_draws ((hb1.trans (hb2.mono hb1.size)).trans (hb3.mono (Nat.le_trans hb1.size hb2.size))) n⟩

set_option maxHeartbeats 400000 in
theorem law3_any (s : ByteArray) (k : Int) (w : World) :
    Calls Try.prog 3 #[.string s, .int .i64 k] w fun e w' => e = .returned (.bool true) ∧ Below w.heap.size w w' := by
  by_cases h : s.size ≤ 1048576
  · by_cases k1 : k < 0
    · go_enter Try.func3, Try.ntmps3
      go_wp2_with (go_at_call 5; refine (fits5_yes _ _ h _).mono ?_; rintro e w' ⟨rfl, rfl⟩)
      go_ret
      exact ⟨rfl, Below.refl _ _⟩
    · by_cases k2 : (s.size : Int) < k
      · go_enter Try.func3, Try.ntmps3
        go_wp2_with (go_at_call 5; refine (fits5_yes _ _ h _).mono ?_; rintro e w' ⟨rfl, rfl⟩)
        go_ret
        exact ⟨rfl, Below.refl _ _⟩
      · obtain ⟨m, rfl⟩ : ∃ m : Nat, k = m := ⟨k.toNat, by omega⟩
        exact law3_in s m h (by omega) w
  · go_enter Try.func3, Try.ntmps3
    go_wp2_with (go_at_call 5; refine (fits5_no _ _ (by omega) _).mono ?_; rintro e w' ⟨rfl, rfl⟩)
    go_ret
    exact ⟨rfl, Below.refl _ _⟩

end Go.Proofs.Qxb6626233a
