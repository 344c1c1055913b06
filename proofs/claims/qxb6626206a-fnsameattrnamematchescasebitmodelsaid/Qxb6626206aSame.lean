import Derived.Test.Qxb6626206aProg
import Derived.Test.Qxb6626206aPlain
import Derived.WalkKit
import Derived.WalkSpells
import Derived.WalkLawsBesides
import Derived.Deep.QuietTactic
import Derived.BigQuiet
namespace Go.Proofs.Qxb6626206a
open Go.RowKit

set_option maxHeartbeats 400000 in
/-- lowerASCII -/
theorem low_any (n : Int) (h0 : 0 ≤ n) (h1 : n ≤ 255) (w : World) :
    Calls Try.prog 9 #[.int .u8 n] w fun e w' => e = .returned (.int .u8 (Plain.lowI n)) ∧ w' = w := by
  by_cases ha : 65 ≤ n
  · by_cases hb : n ≤ 90
    · have e : Plain.lowI n = n + 97 - 65 := by unfold Plain.lowI; rw [if_pos ⟨ha, hb⟩]; omega
      rw [e]; clear e
      go_enter Try.func9, Try.ntmps9
      go_wp2
      go_ret
      exact ⟨rfl, rfl⟩
    · have e : Plain.lowI n = n := by unfold Plain.lowI; rw [if_neg (by omega)]
      rw [e]; clear e
      go_enter Try.func9, Try.ntmps9
      go_wp2
      go_ret
      exact ⟨rfl, rfl⟩
  · have e : Plain.lowI n = n := by unfold Plain.lowI; rw [if_neg (by omega)]
    rw [e]; clear e
    go_enter Try.func9, Try.ntmps9
    go_wp2
    go_ret
    exact ⟨rfl, rfl⟩


theorem byte_at (s : ByteArray) (k : Nat) (h : k < s.size) : s.data.toList[k]? = some s[k] := by
  rw [List.getElem?_eq_getElem (by simpa using h)]; rfl

theorem take_snoc (s : ByteArray) (k : Nat) (h : k < s.size) : s.data.toList.take (k + 1) = s.data.toList.take k ++ [s[k]] := by
  rw [List.take_succ_eq_append_getElem (by simpa using h)]; rfl

theorem ret_bool {x y : Bool} (h : x = y) : Ending.returned (.bool x) = .returned (.bool y) := by rw [h]

theorem drewN_more {w w1 : World} (h : ∃ n, w1 = w.drewN n) (m : Nat) : ∃ n, w1.drewN m = w.drewN n := by
  obtain ⟨n, rfl⟩ := h; exact ⟨n + m, World.drewN_drewN ..⟩

theorem step_eq (a b : ByteArray) (k : Nat) (ha : k < a.size) (hb : k < b.size)
    (h : (a.data.toList.take k).map Plain.low = (b.data.toList.take k).map Plain.low)
    (hl : (Plain.lowI (a[k].toNat : Int) != Plain.lowI (b[k].toNat : Int)) = false) :
    (a.data.toList.take (k + 1)).map Plain.low = (b.data.toList.take (k + 1)).map Plain.low := by
  rw [take_snoc a k ha, take_snoc b k hb, List.map_append, List.map_append, h]
  simpa [Plain.low] using hl

theorem end_eq (a b : ByteArray) (k : Nat) (hk : a.size ≤ k) (hab : a.size = b.size)
    (h : (a.data.toList.take k).map Plain.low = (b.data.toList.take k).map Plain.low) :
    Plain.sameB a.data.toList b.data.toList = true := by
  rw [List.take_of_length_le (by simpa using hk), List.take_of_length_le (by rw [hab] at hk; simpa using hk)] at h
  rw [Plain.sameB_iff]; exact h

set_option maxHeartbeats 400000 in
/-- SameAttrName -/
theorem same_any (a b : ByteArray) (ha : a.size ≤ maxLen) (_hb : b.size ≤ maxLen) (w : World) :
    Calls Try.prog 6 #[.string a, .string b] w fun e w' => e = .returned (.bool (Plain.sameB a.data.toList b.data.toList)) ∧ ∃ n, w' = w.drewN n := by
  unfold maxLen at ha _hb
  by_cases hab : a.size = b.size
  · have HAB : Hid (a.size = b.size) := hab
    have hab1 : ((a.size : Int) != (b.size : Int)) = false := by simp [hab]
    clear hab
    go_enter Try.func6, Try.ntmps6
    go_wp2
    go_loopw [5] (fun i wr => ∃ k : Nat, k ≤ a.size ∧ i = .int .i64 k ∧ Hid (∃ n, wr = w.drewN n) ∧ Hid ((a.data.toList.take k).map Plain.low = (b.data.toList.take k).map Plain.low)) (fun i _ => a.size - (intOf i).toNat)
    case atStart => exact ⟨0, Nat.zero_le _, rfl, ⟨0, rfl⟩, rfl⟩
    case round =>
      obtain ⟨k, hk, rfl, HW, HR⟩ := hrel
      by_cases hlt : k < a.size
      · have hltb : k < b.size := by rw [← HAB.out]; exact hlt
        have b1 : a[k].toNat < 256 := UInt8.toNat_lt _
        have b2 : b[k].toNat < 256 := UInt8.toNat_lt _
        go_wp2
        go_quiet ((go_at_call 9; exact Calls.quiet_of_same (low_any _ (by omega) (by omega) _)))
        go_wp2
        · have hne : (Plain.lowI (a[k].toNat : Int) != Plain.lowI (b[k].toNat : Int)) = true := by assumption
          go_ret
          exact ⟨ret_bool (Plain.sameB_ne (byte_at a k hlt) (byte_at b k hltb) (by simpa [Plain.low] using hne)).symm, drewN_more HW.out nq⟩
        · have heq : (Plain.lowI (a[k].toNat : Int) != Plain.lowI (b[k].toNat : Int)) = false := by assumption
          go_round
          case rel => exact ⟨k + 1, by omega, by go_num, drewN_more HW.out nq, step_eq a b k hlt hltb HR.out heq⟩
          case measure => simp [intOf]; omega
      · go_wp2
        go_ret
        exact ⟨ret_bool (end_eq a b k (by omega) HAB.out HR.out).symm, HW.out⟩
  · have hab1 : ((a.size : Int) != (b.size : Int)) = true := by simp; omega
    have e : Plain.sameB a.data.toList b.data.toList = false := Plain.sameB_len (by simpa using hab)
    rw [e]
    clear e hab
    go_enter Try.func6, Try.ntmps6
    go_wp2
    go_ret
    exact ⟨rfl, 0, rfl⟩

end Go.Proofs.Qxb6626206a
