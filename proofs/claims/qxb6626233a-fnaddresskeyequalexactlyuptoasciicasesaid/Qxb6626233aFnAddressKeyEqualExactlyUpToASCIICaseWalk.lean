import Derived.Test.Qxb6626233aKey
import Derived.Test.Qxb6626233aFold
namespace Go.Proofs.Qxb6626233a
open Go.RowKit

set_option maxHeartbeats 400000 in
theorem fits8_yes (a b : ByteArray) (h : a.size + b.size ≤ 1048576) (w : World) :
    Calls Try.prog 8 #[.string a, .string b] w fun e w' => e = .returned (.bool true) ∧ w' = w := by
  go_enter Try.func8, Try.ntmps8
  go_wp2
  go_ret
  exact ⟨rfl, rfl⟩

set_option maxHeartbeats 400000 in
theorem fits8_no (a b : ByteArray) (h : 1048576 < a.size + b.size) (ha : a.size ≤ maxLen) (hb : b.size ≤ maxLen) (w : World) :
    Calls Try.prog 8 #[.string a, .string b] w fun e w' => e = .returned (.bool false) ∧ w' = w := by
  unfold maxLen at ha hb
  by_cases h1 : a.size ≤ 1048576
  · by_cases h2 : b.size ≤ 1048576
    · go_enter Try.func8, Try.ntmps8
      go_wp2
      go_ret
      exact ⟨rfl, rfl⟩
    · go_enter Try.func8, Try.ntmps8
      go_wp2
      go_ret
      exact ⟨rfl, rfl⟩
  · go_enter Try.func8, Try.ntmps8
    go_wp2
    go_ret
    exact ⟨rfl, rfl⟩

theorem str_eq (a b : ByteArray) : ((Plain.lowS a).toList == (Plain.lowS b).toList) = eqFold a b := by
  rw [Bool.eq_iff_iff, eqFold_iff, ByteArray.toList_eq, ByteArray.toList_eq, Plain.lowS_data, Plain.lowS_data, beq_iff_eq]

theorem below_drewN {B : Nat} {a w : World} (h : Below B a w) (n : Nat) : Below B a (w.drewN n) := ⟨h.os, h.tape, h.output, h.size, h.block⟩

set_option maxHeartbeats 400000 in
theorem law4_any (a b : ByteArray) (ha : a.size ≤ maxLen) (hb : b.size ≤ maxLen) (w : World) :
    Calls Try.prog 4 #[.string a, .string b] w fun e w' => e = .returned (.bool true) ∧ Below w.heap.size w w' := by
  by_cases h : a.size + b.size ≤ 1048576
  · have hka : (Plain.lowS a).size ≤ maxLen := by rw [Plain.lowS_size]; exact ha
    have hq : ((Plain.lowS a).toList == (Plain.lowS b).toList) = eqFold a b := str_eq _ _
    have ht : ((Plain.lowS (Plain.lowS a)).toList == (Plain.lowS a).toList) = true := by rw [Plain.lowS_twice]; simp
    go_enter Try.func4, Try.ntmps4
    go_wp2_with fail
    refine (fits8_yes _ _ h _).mono ?_
    rintro e w0 ⟨rfl, rfl⟩
    go_wp2_with fail
    refine (zz_any a ha _).mono ?_
    rintro e w1 ⟨rfl, hb1⟩
    go_wp2_with fail
    refine (zz_any b hb _).mono ?_
    rintro e w2 ⟨rfl, hb2⟩
    go_wp2_with fail
    refine (eqFold_any a b ha _).mono ?_
    rintro e w3 ⟨rfl, hw3⟩; have HW3 : Hid _ := hw3; clear hw3
    go_wp2_with fail
    refine (zz_any (Plain.lowS a) hka _).mono ?_
    rintro e w4 ⟨rfl, hb4⟩
    go_wp2
    go_ret
    obtain ⟨n, rfl⟩ := HW3.out
    exact ⟨rfl, (below_drewN (hb1.trans (hb2.mono hb1.size)) n).trans (hb4.mono (Nat.le_trans hb1.size hb2.size))⟩
  · go_enter Try.func4, Try.ntmps4
    go_wp2_with (go_at_call 8; refine (fits8_no _ _ (by omega) ha hb _).mono ?_; rintro e w' ⟨rfl, rfl⟩)
    go_ret
    exact ⟨rfl, Below.refl _ _⟩

end Go.Proofs.Qxb6626233a
