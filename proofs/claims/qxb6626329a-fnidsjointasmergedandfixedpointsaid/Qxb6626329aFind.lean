import Derived.Test.Qxb6626329aReads
import Derived.Deep.QuietTactic
import Derived.BigQuiet
namespace Go.Proofs.Qxb6626329a
open Go.RowKit

/-- strictly increasing in Go's order of strings, as the model asks it -/
def Inc (ss : List ByteArray) : Prop := ∀ i j (hi : i < ss.length) (hj : j < ss.length), i < j → Op.bytesLess ss[i].toList ss[j].toList = true

theorem bytesLess_irrefl : ∀ x : List UInt8, Op.bytesLess x x = false
  | [] => rfl
  | a :: x => by simp [Op.bytesLess, bytesLess_irrefl x]

theorem bytesLess_asymm : ∀ x y : List UInt8, Op.bytesLess x y = true → Op.bytesLess y x = false
  | _, [] => by intro h; simp [Op.bytesLess] at h
  | [], b :: y => by intro _; simp [Op.bytesLess]
  | a :: x, b :: y => by
    intro h
    simp only [Op.bytesLess, Bool.or_eq_true, decide_eq_true_eq, Bool.and_eq_true, beq_iff_eq] at h
    simp only [Op.bytesLess, Bool.or_eq_false_iff, decide_eq_false_iff_not, Bool.and_eq_false_imp, beq_iff_eq]
    rcases h with h | ⟨rfl, h⟩
    · refine ⟨fun h' => UInt8.lt_irrefl _ (UInt8.lt_trans h h'), fun e => ?_⟩
      subst e; exact absurd h (UInt8.lt_irrefl _)
    · exact ⟨UInt8.lt_irrefl _, fun _ => bytesLess_asymm x y h⟩

set_option maxHeartbeats 400000 in
/-- zzIDsFind, at an element of a strictly increasing list -/
theorem find_any (v : Value) (ss : List ByteArray) (j : Nat) (hj : j < ss.length) (hn : ss.length ≤ 4194304) (hinc : Inc ss) (w : World) (h : SS w v ss) :
    Calls Try.prog 19 #[v, .string ss[j]] w fun e w' => e = .returned (.int .i64 j) ∧ w' = w := by
  obtain ⟨p, cap, rfl, h⟩ := h
  obtain ⟨b, off, rfl, hcj⟩ := at_row h hj
  have hc : SCells w b off ss := by
    rcases h with rfl | ⟨b', off', e, hc⟩
    · simp at hj
    · injection e with e; injection e with e1 e2; subst e1; subst e2; exact hc
  obtain ⟨x, hx⟩ : ∃ x, x = ss[j] := ⟨_, rfl⟩
  have hless : ∀ m (hm : m < ss.length), m < j → Op.bytesLess ss[m].toList x.toList = true := by intro m hm h; rw [hx]; exact hinc m j hm hj h
  have hnot : ∀ m (hm : m < ss.length), ¬ m < j → Op.bytesLess ss[m].toList x.toList = false := by
    intro m hm h; rw [hx]
    by_cases e : m = j
    · subst e; exact bytesLess_irrefl _
    · exact bytesLess_asymm _ _ (hinc j m hj hm (by omega))
  have hxl : (ss[j].toList == x.toList) = true := by rw [hx]; simp
  rw [← hx]
  have HC : Hid _ := hc
  have HL : Hid _ := hless
  have HN : Hid _ := hnot
  clear hc hless hnot h hinc hx hcj
  go_enter Try.func19, Try.ntmps19
  go_wp2
  go_loop [5, 6] (fun l h => ∃ lo hi : Nat, lo ≤ j ∧ j ≤ hi ∧ hi ≤ ss.length ∧ l = .int .i64 lo ∧ h = .int .i64 hi) (fun l h => (intOf h).toNat - (intOf l).toNat)
  case atStart => exact ⟨0, ss.length, Nat.zero_le _, by omega, Nat.le_refl _, rfl, rfl⟩
  case round =>
    obtain ⟨lo, hi, h1, h2, h3, rfl, rfl⟩ := hrel
    by_cases hlt : lo < hi
    · have hm : ((lo : Int) + ((hi : Int) - (lo : Int)) / 2) = ((lo + (hi - lo) / 2 : Nat) : Int) := by omega
      obtain ⟨m, em⟩ : ∃ m : Nat, m = lo + (hi - lo) / 2 := ⟨_, rfl⟩
      rw [← em] at hm
      have EM : Hid _ := em
      have hml : m < ss.length := by omega
      have hml2 : lo ≤ m ∧ m < hi := by omega
      have hcm := HC.out m hml
      clear em
      by_cases hmj : m < j
      · have hl := HL.out m hml hmj
        go_wp2
        go_round
        case rel => exact ⟨m + 1, hi, by omega, h2, h3, by go_num, rfl⟩
        case measure => simp [intOf]; omega
      · have hl := HN.out m hml hmj
        go_wp2
        go_round
        case rel => exact ⟨lo, m, h1, by omega, by omega, rfl, rfl⟩
        case measure => simp [intOf]; omega
    · have : lo = j := by omega
      subst this
      have hcj := HC.out lo hj
      go_wp2
      go_ret
      exact ⟨rfl, rfl⟩

theorem find_at (v : Value) (ss : List ByteArray) (x : ByteArray) (j : Nat) (hj : j < ss.length) (hx : ss[j] = x) (hn : ss.length ≤ 4194304) (hinc : Inc ss) (w : World) (h : SS w v ss) :
    Calls Try.prog 19 #[v, .string x] w fun e w' => e = .returned (.int .i64 j) ∧ w' = w := by
  subst hx; exact find_any v ss j hj hn hinc w h

set_option maxHeartbeats 400000 in
/-- zzIDsAllFound, where all are there -/
theorem allFound_any (vr vi : Value) (rs ids : List ByteArray) (hn : rs.length ≤ 4194304) (hm : ids.length ≤ 4194304) (hinc : Inc rs) (hall : ∀ x ∈ ids, x ∈ rs) (w : World) (hr : SS w vr rs) (hi : SS w vi ids) :
    Calls Try.prog 14 #[vr, vi] w fun e w' => e = .returned (.bool true) ∧ w' = w := by
  obtain ⟨p, cap, rfl, hi⟩ := hi
  have H : Hid _ := hi
  have HR : Hid _ := hr
  have HA : Hid _ := hall
  have HI : Hid _ := hinc
  clear hi hr hall hinc
  go_enter Try.func14, Try.ntmps14
  go_wp2
  go_loop [5] (fun i => ∃ k : Nat, k ≤ ids.length ∧ i = .int .i64 k) (fun i => ids.length - (intOf i).toNat)
  case atStart => exact ⟨0, Nat.zero_le _, rfl⟩
  case round =>
    obtain ⟨k, hk, rfl⟩ := hrel
    by_cases hlt : k < ids.length
    · obtain ⟨b, off, rfl, hc⟩ := at_row H.out hlt
      obtain ⟨j, hj, hx⟩ := List.getElem_of_mem (HA.out ids[k] (List.getElem_mem hlt))
      have HX : Hid _ := hx
      clear H hx
      go_wp2_with fail
      refine (find_at vr rs ids[k] j hj HX.out hn HI.out _ HR.out).mono ?_
      rintro e w1 ⟨rfl, rfl⟩
      go_wp2
      go_round
      case rel => exact ⟨k + 1, by omega, by go_num⟩
      case measure => simp [intOf]; omega
    · go_wp2
      go_ret
      exact ⟨rfl, rfl⟩

theorem drewN_more {w w1 : World} (h : ∃ n, w1 = w.drewN n) (m : Nat) : ∃ n, w1.drewN m = w.drewN n := by
  obtain ⟨n, rfl⟩ := h; exact ⟨n + m, World.drewN_drewN ..⟩

set_option maxHeartbeats 400000 in
/-- zzIDsEqual, of two slices that read alike -/
theorem equal_any (va vb : Value) (ss : List ByteArray) (hn : ss.length ≤ 4194304) (w : World) (ha : SS w va ss) (hb : SS w vb ss) :
    Calls Try.prog 13 #[va, vb] w fun e w' => e = .returned (.bool true) ∧ ∃ n, w' = w.drewN n := by
  obtain ⟨p, cap, rfl, ha⟩ := ha
  obtain ⟨q, cap2, rfl, hb⟩ := hb
  have HA : Hid _ := ha
  have HB : Hid _ := hb
  clear ha hb
  go_enter Try.func13, Try.ntmps13
  go_wp2
  go_loopw [5] (fun i wr => ∃ k : Nat, k ≤ ss.length ∧ i = .int .i64 k ∧ Hid (∃ n, wr = w.drewN n)) (fun i _ => ss.length - (intOf i).toNat)
  case atStart => exact ⟨0, Nat.zero_le _, rfl, ⟨0, rfl⟩⟩
  case round =>
    obtain ⟨k, hk, rfl, HW⟩ := hrel
    by_cases hlt : k < ss.length
    · obtain ⟨b, off, rfl, hc⟩ := at_row HA.out hlt
      obtain ⟨b2, off2, rfl, hc2⟩ := at_row HB.out hlt
      have e1 : wr.cell? ⟨b, off + k, none⟩ = some (.string ss[k]) := by obtain ⟨n, rfl⟩ := HW.out; exact hc
      have e2 : wr.cell? ⟨b2, off2 + k, none⟩ = some (.string ss[k]) := by obtain ⟨n, rfl⟩ := HW.out; exact hc2
      clear hc hc2
      go_wp2
      go_quiet (fail)
      go_wp2
      go_round
      case rel => exact ⟨k + 1, by omega, by go_num, drewN_more HW.out nq⟩
      case measure => simp [intOf]; omega
    · go_wp2
      go_ret
      exact ⟨rfl, HW.out⟩

/-- the row of marks: those of T are set -/
def Marked (w : World) (g n : Nat) (T : Nat → Prop) : Prop := ∀ j, j < n → (∃ b : Bool, w.cell? ⟨g, j, none⟩ = some (.bool b) ∧ (T j → b = true)) ∧ w.frozen? ⟨g, j, none⟩ = false

theorem Marked.set {w : World} {g n : Nat} {T T' : Nat → Prop} (h : Marked w g n T) {k : Nat} (hk : k < n) (hT : ∀ j, j < n → j ≠ k → T' j → T j) : Marked (w.setCell ⟨g, k, none⟩ (.bool true)) g n T' := by
  intro j hj
  obtain ⟨⟨b, hb, ht⟩, hf⟩ := h j hj
  refine ⟨?_, by rw [World.frozen?_setCell]; exact hf⟩
  by_cases e : j = k
  · subst e; exact ⟨true, World.cell?_setCell_same _ _ _ hb, fun _ => rfl⟩
  · exact ⟨b, by rw [World.cell?_setCell_other _ _ _ _ (by intro h; injection h with _ h _; exact e h.symm)]; exact hb, fun h' => ht (hT j hj e h')⟩

theorem Inc.inj {ss : List ByteArray} (h : Inc ss) {i j : Nat} (hi : i < ss.length) (hj : j < ss.length) (e : ss[i] = ss[j]) : i = j := by
  rcases Nat.lt_trichotomy i j with hlt | rfl | hlt
  · have := h i j hi hj hlt; rw [e, bytesLess_irrefl] at this; exact Bool.noConfusion this
  · rfl
  · have := h j i hj hi hlt; rw [e, bytesLess_irrefl] at this; exact Bool.noConfusion this

set_option maxHeartbeats 400000 in
/-- zzIDsMark, where all are there: each of them is marked -/
theorem mark_any (vr vi : Value) (rs ids : List ByteArray) (hn : rs.length ≤ 4194304) (hm : ids.length ≤ 4194304) (hinc : Inc rs) (hall : ∀ x ∈ ids, x ∈ rs) (g : Nat) (T : Nat → Prop) (w : World)
    (hr : ∀ wx, Below g w wx → SS wx vr rs) (hi : ∀ wx, Below g w wx → SS wx vi ids) (hM : Marked w g rs.length T) :
    Calls Try.prog 9 #[vr, vi, .slice (some ⟨g, 0, none⟩) rs.length rs.length] w fun e w' => e = .returned (.bool true) ∧ Marked w' g rs.length (fun j => T j ∨ ∃ h : j < rs.length, rs[j] ∈ ids) ∧ Below g w w' := by
  obtain ⟨p, cap, rfl, hi0⟩ := hi w (Below.refl _ _)
  have hi' : ∀ wx, Below g w wx → ids = [] ∨ ∃ b off, p = some ⟨b, off, none⟩ ∧ SCells wx b off ids := by
    intro wx hb
    obtain ⟨p', cap', e, h⟩ := hi wx hb
    injection e with e1 e2 e3; subst e1; exact h
  have H : Hid _ := hi'
  have HR : Hid _ := hr
  have HA : Hid _ := hall
  have HI : Hid _ := hinc
  have HM : Hid _ := hM
  clear hi hr hall hinc hi0 hi' hM
  go_enter Try.func9, Try.ntmps9
  go_wp2
  go_loopw [7] (fun i wr => ∃ k : Nat, k ≤ ids.length ∧ i = .int .i64 k ∧ Hid (Marked wr g rs.length (fun j => T j ∨ ∃ h : j < rs.length, rs[j] ∈ ids.take k)) ∧ Hid (Below g w wr)) (fun i _ => ids.length - (intOf i).toNat)
  case atStart => exact ⟨0, Nat.zero_le _, rfl, (fun j hj => ⟨by obtain ⟨⟨b, h1, h2⟩, _⟩ := HM.out j hj; exact ⟨b, h1, fun h => h2 (by simpa using h)⟩, (HM.out j hj).2⟩), Below.refl _ _⟩
  case round =>
    obtain ⟨k, hk, rfl, HMk, HB⟩ := hrel
    by_cases hlt : k < ids.length
    · obtain ⟨b, off, rfl, hc⟩ := at_row (H.out wr HB.out) hlt
      obtain ⟨j, hj, hx⟩ := List.getElem_of_mem (HA.out ids[k] (List.getElem_mem hlt))
      obtain ⟨⟨bb, hcj, _⟩, hfj⟩ := HMk.out j hj
      have HX : Hid _ := hx
      clear H hx HM
      go_wp2_with fail
      refine (find_at vr rs ids[k] j hj HX.out hn HI.out _ (HR.out wr HB.out)).mono ?_
      rintro e w1 ⟨rfl, rfl⟩
      go_wp2
      go_roundw
      case rel =>
        refine ⟨k + 1, by omega, by go_num, HMk.out.set hj ?_, HB.out.setCell (Nat.le_refl _) _⟩
        intro i hi hne h
        rcases h with h | ⟨h', h⟩
        · exact Or.inl h
        · rw [List.take_succ_eq_append_getElem hlt, List.mem_append, List.mem_singleton] at h
          rcases h with h | h
          · exact Or.inr ⟨h', h⟩
          · exact absurd (Inc.inj HI.out h' hj (by rw [h, HX.out])) hne
      case measure => simp [intOf]; omega
    · go_wp2
      go_ret
      refine ⟨rfl, ?_, HB.out⟩
      have := HMk.out
      rwa [List.take_of_length_le (by omega)] at this

end Go.Proofs.Qxb6626329a
