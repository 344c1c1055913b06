import Derived.Test.Qxb6626233aProg
import Derived.Test.Qxb6626233aBits
import Derived.WalkKit
import Derived.WalkSpells
import Derived.WalkLawsBesides
import Derived.Deep.QuietTactic
import Derived.BigQuiet
namespace Go.Proofs.Qxb6626233a
open Go.RowKit

theorem ret_bool {x y : Bool} (h : x = y) : Ending.returned (.bool x) = .returned (.bool y) := by rw [h]

theorem drewN_more {w w1 : World} (h : ∃ n, w1 = w.drewN n) (m : Nat) : ∃ n, w1.drewN m = w.drewN n := by
  obtain ⟨n, rfl⟩ := h; exact ⟨n + m, World.drewN_drewN ..⟩

set_option maxHeartbeats 400000 in
/-- zzSameUpToASCIICase -/
theorem case_any (x y : Int) (w : World) :
    Calls Try.prog 12 #[.int .u8 x, .int .u8 y] w fun e w' => e = .returned (.bool (caseBit x y)) ∧ w' = w := by
  cases h1 : (x == y)
  · cases h2 : (bits .xor .u8 x y != 32)
    · have e := cb_rest h1 h2
      rw [e]; clear e
      go_enter Try.func12, Try.ntmps12
      go_wp2
      · have h3 : 97 ≤ bits .or .u8 x 32 := by assumption
        go_ret
        exact ⟨ret_bool (by simp [h3]), rfl⟩
      · have h3 : bits .or .u8 x 32 < 97 := by assumption
        go_ret
        exact ⟨ret_bool (by simp; omega), rfl⟩
    · have e := cb_xor h1 h2
      rw [e]; clear e
      go_enter Try.func12, Try.ntmps12
      go_wp2
      go_ret
      exact ⟨rfl, rfl⟩
  · have e := cb_eq h1
    rw [e]; clear e
    go_enter Try.func12, Try.ntmps12
    go_wp2
    go_ret
    exact ⟨rfl, rfl⟩

set_option maxHeartbeats 400000 in
/-- zzIsUpperASCII, at a byte that is none -/
theorem upper_no (x : Int) (h : ¬ (65 ≤ x ∧ x ≤ 90)) (w : World) :
    Calls Try.prog 11 #[.int .u8 x] w fun e w' => e = .returned (.bool false) ∧ w' = w := by
  by_cases h1 : 65 ≤ x
  · have h2 : 90 < x := by omega
    clear h
    go_enter Try.func11, Try.ntmps11
    go_wp2
    go_ret
    exact ⟨ret_bool (by simp; omega), rfl⟩
  · clear h
    go_enter Try.func11, Try.ntmps11
    go_wp2
    go_ret
    exact ⟨rfl, rfl⟩

theorem byte_at (s : ByteArray) (k : Nat) (h : k < s.size) : s.data.toList[k]? = some s[k] := by
  rw [List.getElem?_eq_getElem (by simpa using h)]; rfl

theorem take_snoc (s : ByteArray) (k : Nat) (h : k < s.size) : s.data.toList.take (k + 1) = s.data.toList.take k ++ [s[k]] := by
  rw [List.take_succ_eq_append_getElem (by simpa using h)]; rfl

/-- two Go strings are one up to ASCII case -/
def eqFold (a b : ByteArray) : Bool := decide (Plain.lowS a = Plain.lowS b)

theorem eqFold_iff (a b : ByteArray) : eqFold a b = true ↔ Plain.lowL a.data.toList = Plain.lowL b.data.toList := by
  unfold eqFold
  rw [decide_eq_true_eq, ← Plain.lowS_data, ← Plain.lowS_data]
  exact ⟨fun h => by rw [h], Plain.ext_data⟩

theorem fold_len {a b : ByteArray} (h : a.size ≠ b.size) : eqFold a b = false := by
  rw [Bool.eq_false_iff]; intro hs; rw [eqFold_iff] at hs
  apply h
  have := congrArg List.length hs
  simpa [Plain.lowL] using this

theorem fold_ne {a b : ByteArray} {k : Nat} (ha : k < a.size) (hb : k < b.size) (h : caseBit (a[k].toNat : Int) (b[k].toNat : Int) = false) : eqFold a b = false := by
  rw [Bool.eq_false_iff]; intro hs; rw [eqFold_iff] at hs
  have := congrArg (fun l : List UInt8 => l[k]?) hs
  simp only [Plain.lowL, List.getElem?_map, byte_at a k ha, byte_at b k hb, Option.map_some, Option.some.injEq] at this
  rw [(caseBit_low _ _).2 this] at h
  exact Bool.noConfusion h

theorem fold_step (a b : ByteArray) (k : Nat) (ha : k < a.size) (hb : k < b.size)
    (h : Plain.lowL (a.data.toList.take k) = Plain.lowL (b.data.toList.take k)) (hc : caseBit (a[k].toNat : Int) (b[k].toNat : Int) = true) :
    Plain.lowL (a.data.toList.take (k + 1)) = Plain.lowL (b.data.toList.take (k + 1)) := by
  unfold Plain.lowL at h ⊢
  rw [take_snoc a k ha, take_snoc b k hb, List.map_append, List.map_append, h, List.map_singleton, List.map_singleton, (caseBit_low _ _).1 hc]

theorem fold_end (a b : ByteArray) (k : Nat) (hk : a.size ≤ k) (hab : a.size = b.size)
    (h : Plain.lowL (a.data.toList.take k) = Plain.lowL (b.data.toList.take k)) : eqFold a b = true := by
  rw [List.take_of_length_le (by simpa using hk), List.take_of_length_le (by rw [hab] at hk; simpa using hk)] at h
  rw [eqFold_iff]; exact h

set_option maxHeartbeats 400000 in
/-- zzEqualFoldASCII -/
theorem eqFold_any (a b : ByteArray) (ha : a.size ≤ maxLen) (w : World) :
    Calls Try.prog 9 #[.string a, .string b] w fun e w' => e = .returned (.bool (eqFold a b)) ∧ ∃ n, w' = w.drewN n := by
  unfold maxLen at ha
  by_cases hab : a.size = b.size
  · have HAB : Hid (a.size = b.size) := hab
    have hab1 : ((a.size : Int) != (b.size : Int)) = false := by simp [hab]
    clear hab
    go_enter Try.func9, Try.ntmps9
    go_wp2
    go_loopw [5] (fun i wr => ∃ k : Nat, k ≤ a.size ∧ i = .int .i64 k ∧ Hid (∃ n, wr = w.drewN n) ∧ Hid (Plain.lowL (a.data.toList.take k) = Plain.lowL (b.data.toList.take k))) (fun i _ => a.size - (intOf i).toNat)
    case atStart => exact ⟨0, Nat.zero_le _, rfl, ⟨0, rfl⟩, rfl⟩
    case round =>
      obtain ⟨k, hk, rfl, HW, HR⟩ := hrel
      by_cases hlt : k < a.size
      · have hltb : k < b.size := by rw [← HAB.out]; exact hlt
        go_wp2
        go_quiet ((go_at_call 12; exact Calls.quiet_of_same (case_any _ _ _)))
        go_wp2
        · have hne : (!caseBit (a[k].toNat : Int) (b[k].toNat : Int)) = true := by assumption
          go_ret
          exact ⟨ret_bool (fold_ne hlt hltb (by simpa using hne)).symm, drewN_more HW.out nq⟩
        · have heq : (!caseBit (a[k].toNat : Int) (b[k].toNat : Int)) = false := by assumption
          go_round
          case rel => exact ⟨k + 1, by omega, by go_num, drewN_more HW.out nq, fold_step a b k hlt hltb HR.out (by simpa using heq)⟩
          case measure => simp [intOf]; omega
      · go_wp2
        go_ret
        exact ⟨ret_bool (fold_end a b k (by omega) HAB.out HR.out).symm, HW.out⟩
  · have hab1 : ((a.size : Int) != (b.size : Int)) = true := by simp; omega
    have e : eqFold a b = false := fold_len hab
    rw [e]
    clear e hab
    go_enter Try.func9, Try.ntmps9
    go_wp2
    go_ret
    exact ⟨rfl, 0, rfl⟩

set_option maxHeartbeats 400000 in
/-- zzFoldsTo, at a key that folds -/
theorem folds_yes (a b : ByteArray) (ha : a.size ≤ maxLen) (hab : a.size = b.size)
    (hno : ∀ k (h : k < a.size), ¬ (65 ≤ (a[k].toNat : Int) ∧ (a[k].toNat : Int) ≤ 90)) (hcb : ∀ k (h : k < a.size) (h' : k < b.size), caseBit (a[k].toNat : Int) (b[k].toNat : Int) = true) (w : World) :
    Calls Try.prog 7 #[.string a, .string b] w fun e w' => e = .returned (.bool true) ∧ ∃ n, w' = w.drewN n := by
  unfold maxLen at ha
  have HAB : Hid (a.size = b.size) := hab
  have hab1 : ((a.size : Int) != (b.size : Int)) = false := by simp [hab]
  have HN : Hid _ := hno
  have HC : Hid _ := hcb
  clear hab hno hcb
  go_enter Try.func7, Try.ntmps7
  go_wp2
  go_loopw [5] (fun i wr => ∃ k : Nat, k ≤ a.size ∧ i = .int .i64 k ∧ Hid (∃ n, wr = w.drewN n)) (fun i _ => a.size - (intOf i).toNat)
  case atStart => exact ⟨0, Nat.zero_le _, rfl, ⟨0, rfl⟩⟩
  case round =>
    obtain ⟨k, hk, rfl, HW⟩ := hrel
    by_cases hlt : k < a.size
    · have hltb : k < b.size := by rw [← HAB.out]; exact hlt
      have hcb := HC.out k hlt hltb
      go_wp2_with (go_at_call 11; refine (upper_no _ (HN.out k hlt) _).mono ?_; rintro e w1 ⟨rfl, rfl⟩)
      go_quiet ((go_at_call 12; exact Calls.quiet_of_same (case_any _ _ _)))
      go_wp2
      go_round
      case rel => exact ⟨k + 1, by omega, by go_num, drewN_more HW.out nq⟩
      case measure => simp [intOf]; omega
    · go_wp2
      go_ret
      exact ⟨rfl, HW.out⟩

end Go.Proofs.Qxb6626233a
