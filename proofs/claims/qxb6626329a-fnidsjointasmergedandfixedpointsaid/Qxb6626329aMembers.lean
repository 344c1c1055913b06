import Derived.Test.Qxb6626329aReads
import Derived.RegionTactic
import Derived.BigRegion
namespace Go.Proofs.Qxb6626329a
open Go.RowKit

/-- a new row of n members, the first of which are ms -/
def MPart (w : World) (g n : Nat) (ms : List (ByteArray × ByteArray)) : Prop :=
  (∀ j, j < n * 2 → ∃ s, w.cell? ⟨g, j, none⟩ = some (.string s)) ∧ (∀ j, w.frozen? ⟨g, j, none⟩ = false) ∧ MCells w g ms

theorem MPart.snoc {w : World} {g n : Nat} {ms : List (ByteArray × ByteArray)} (h : MPart w g n ms) {k : Nat} (hk : ms.length = k) (hlt : k < n) (x y : ByteArray) :
    MPart ((w.setCell ⟨g, k * 2, none⟩ (.string x)).setCell ⟨g, k * 2 + 1, none⟩ (.string y)) g n (ms ++ [(x, y)]) := by
  obtain ⟨hs, hf, hm⟩ := h
  obtain ⟨s0, h0⟩ := hs (k * 2) (by omega)
  obtain ⟨s1, h1⟩ := hs (k * 2 + 1) (by omega)
  have ne01 : (⟨g, k * 2, none⟩ : Addr) ≠ ⟨g, k * 2 + 1, none⟩ := by intro h; injection h with _ h _; omega
  have c1 : (w.setCell ⟨g, k * 2, none⟩ (.string x)).cell? ⟨g, k * 2 + 1, none⟩ = some (.string s1) := by rw [World.cell?_setCell_other _ _ _ _ ne01]; exact h1
  have at1 : ((w.setCell ⟨g, k * 2, none⟩ (.string x)).setCell ⟨g, k * 2 + 1, none⟩ (.string y)).cell? ⟨g, k * 2 + 1, none⟩ = some (.string y) := World.cell?_setCell_same _ _ _ c1
  have at0 : ((w.setCell ⟨g, k * 2, none⟩ (.string x)).setCell ⟨g, k * 2 + 1, none⟩ (.string y)).cell? ⟨g, k * 2, none⟩ = some (.string x) := by
    rw [World.cell?_setCell_other _ _ _ _ ne01.symm]; exact World.cell?_setCell_same _ _ _ h0
  have oth : ∀ j, j ≠ k * 2 → j ≠ k * 2 + 1 → ((w.setCell ⟨g, k * 2, none⟩ (.string x)).setCell ⟨g, k * 2 + 1, none⟩ (.string y)).cell? ⟨g, j, none⟩ = w.cell? ⟨g, j, none⟩ := by
    intro j n0 n1
    rw [World.cell?_setCell_other _ _ _ _ (by intro h; injection h with _ h _; omega), World.cell?_setCell_other _ _ _ _ (by intro h; injection h with _ h _; omega)]
  refine ⟨?_, ?_, ?_⟩
  · intro j hj
    by_cases e0 : j = k * 2
    · exact ⟨x, by rw [e0]; exact at0⟩
    · by_cases e1 : j = k * 2 + 1
      · exact ⟨y, by rw [e1]; exact at1⟩
      · obtain ⟨s, h⟩ := hs j hj; exact ⟨s, by rw [oth j e0 e1]; exact h⟩
  · intro j; rw [World.frozen?_setCell, World.frozen?_setCell]; exact hf j
  · intro i hi
    by_cases e : i = k
    · subst e
      refine ⟨?_, ?_⟩
      · rw [at0]; simp [hk]
      · rw [at1]; simp [hk]
    · have hi' : i < ms.length := by simp at hi; omega
      rw [oth (i * 2) (by omega) (by omega), oth (i * 2 + 1) (by omega) (by omega)]
      rw [List.getElem_append_left hi']
      exact hm i hi'

theorem MPart.drew {w : World} {g n : Nat} {ms : List (ByteArray × ByteArray)} (h : MPart w g n ms) : MPart w.drew g n ms := h

theorem MPart.made {wc : World} {g n : Nat} (h1 : ∀ j, j < n * 2 → wc.cell? ⟨g, j, none⟩ = some (.string ByteArray.empty)) (h2 : ∀ j, wc.frozen? ⟨g, j, none⟩ = false) : MPart wc g n [] :=
  ⟨fun j hj => ⟨_, h1 j hj⟩, h2, fun i hi => by simp at hi⟩

theorem below_put2 {B : Nat} {w wr : World} (h : Below B w wr) (g : Nat) (hg : B ≤ g) (i j : Nat) (u v : Value) : Below B w ((wr.setCell ⟨g, i, none⟩ u).setCell ⟨g, j, none⟩ v) :=
  (h.setCell (p := ⟨g, i, none⟩) hg u).setCell (p := ⟨g, j, none⟩) hg v

/-- what is known of a cell of a row that came in, in a later world -/
theorem row_later {B : Nat} {w wr : World} {p : Option Addr} {ss : List ByteArray} (h : ss = [] ∨ ∃ b off, p = some ⟨b, off, none⟩ ∧ SCells w b off ss) (hb : Below B w wr) (hB : w.heap.size ≤ B) {k : Nat} (hk : k < ss.length) :
    ∃ b off, p = some ⟨b, off, none⟩ ∧ wr.cell? ⟨b, off + k, none⟩ = some (.string ss[k]) := by
  obtain ⟨b, off, e, hc⟩ := at_row h hk
  exact ⟨b, off, e, by rw [hb.cell (p := ⟨b, off + k, none⟩) (Nat.lt_of_lt_of_le (block_lt hc) hB)]; exact hc⟩

set_option maxHeartbeats 400000 in
/-- zzIDsMembers, of a slice that is not nil -/
theorem members_some (a : Addr) (c1 : Nat) (p : Option Addr) (c2 : Nat) (ids addrs : List ByteArray) (hl : addrs.length = ids.length) (hn : ids.length ≤ 65536) (w : World)
    (hi : ids = [] ∨ ∃ b off, some a = some ⟨b, off, none⟩ ∧ SCells w b off ids) (ha : addrs = [] ∨ ∃ b off, p = some ⟨b, off, none⟩ ∧ SCells w b off addrs) :
    Calls Try.prog 7 #[.slice (some a) ids.length c1, .slice p addrs.length c2] w fun e w' => e = .returned (.slice (some ⟨w.heap.size, 0, none⟩) ids.length ids.length) ∧
      MPart w' w.heap.size ids.length (ids.zip addrs) ∧ Below w.heap.size w w' := by
  obtain ⟨wc, hmk, hcell, hfro, hbel, hsz⟩ := make_members ids.length (by omega) w
  have hnil := fun (wx : World) (a : Option Addr) (n c : Nat) => Lib.run_eql_slice_nil (P := Try.prog) wx 22 9 a n c 0 0 Try.underlying22
  have HP : Hid _ := MPart.made hcell hfro
  have HI : Hid _ := hi
  have HA : Hid _ := ha
  have HL : Hid (addrs.length = ids.length) := hl
  have hl1 : addrs.length ≤ ids.length := by omega
  have hl2 : ids.length ≤ addrs.length := by omega
  have HB : Hid _ := hbel
  clear hcell hfro hi ha hl hbel
  go_enter Try.func7, Try.ntmps7
  go_wp2
  go_loopw [6] (fun i wr => ∃ k : Nat, k ≤ ids.length ∧ i = .int .i64 k ∧ Hid (Below w.heap.size w wr) ∧ Hid (MPart wr w.heap.size ids.length ((ids.zip addrs).take k))) (fun i _ => ids.length - (intOf i).toNat)
  case atStart => exact ⟨0, Nat.zero_le _, rfl, HB.out, HP.out⟩
  case round =>
    obtain ⟨k, hk, rfl, HBr, HM⟩ := hrel
    by_cases hlt : k < ids.length
    · have hlt2 : k < addrs.length := by omega
      obtain ⟨b, off, e1, hx⟩ := row_later HI.out HBr.out (Nat.le_refl _) hlt
      obtain ⟨b2, off2, e2, hy⟩ := row_later HA.out HBr.out (Nat.le_refl _) hlt2
      obtain rfl : a = ⟨b, off, none⟩ := by injection e1
      subst e2
      obtain ⟨s0, hc0⟩ := HM.out.1 (k * 2) (by omega)
      obtain ⟨s1, hc1⟩ := HM.out.1 (k * 2 + 1) (by omega)
      have hf0 := HM.out.2.1 (k * 2)
      have hf1 := HM.out.2.1 (k * 2 + 1)
      clear HI HA HP HB hmk
      go_wp2
      go_region
      go_wp2
      go_roundw
      case rel =>
        refine ⟨k + 1, by omega, by go_num, (below_put2 HBr.out w.heap.size (Nat.le_refl _) _ _ _ _).drew, ?_⟩
        have hz : (ids.zip addrs).take (k + 1) = (ids.zip addrs).take k ++ [(ids[k], addrs[k])] := by
          rw [List.take_succ_eq_append_getElem (by simp; omega), List.getElem_zip]
        rw [hz]
        exact MPart.snoc HM.out (by simp; omega) hlt ids[k] addrs[k]
      case measure => simp [intOf]; omega
    · go_wp2
      go_ret
      have := HM.out
      rw [List.take_of_length_le (by simp; omega)] at this
      exact ⟨rfl, this, HBr.out⟩

set_option maxHeartbeats 400000 in
/-- zzIDsMembers -/
theorem members_any (v1 v2 : Value) (ids addrs : List ByteArray) (hl : addrs.length = ids.length) (hn : ids.length ≤ 65536) (w : World) (hi : SS w v1 ids) (ha : SS w v2 addrs) :
    Calls Try.prog 7 #[v1, v2] w fun e w' => ∃ v, e = .returned v ∧ MS w' v (ids.zip addrs) ∧ Below w.heap.size w w' := by
  obtain ⟨p1, c1, rfl, hi⟩ := hi
  obtain ⟨p2, c2, rfl, ha⟩ := ha
  have hzl : (ids.zip addrs).length = ids.length := by simp; omega
  cases p1 with
  | none =>
    have e : ids = [] := by
      rcases hi with h | ⟨b, off, h, _⟩
      · exact h
      · cases h
    subst e
    have e2 : addrs = [] := List.eq_nil_of_length_eq_zero (by simpa using hl)
    subst e2
    have hnil := fun (wx : World) (a : Option Addr) (n c : Nat) => Lib.run_eql_slice_nil (P := Try.prog) wx 22 9 a n c 0 0 Try.underlying22
    clear hi ha
    go_enter Try.func7, Try.ntmps7
    go_wp2
    go_ret
    exact ⟨_, rfl, ⟨none, 0, rfl, Or.inl rfl⟩, Below.refl _ _⟩
  | some a =>
    refine (members_some a c1 p2 c2 ids addrs hl hn w hi ha).mono ?_
    rintro e w' ⟨rfl, hm, hb⟩
    exact ⟨_, rfl, ⟨_, _, by rw [hzl], Or.inr ⟨_, rfl, hm.2.2⟩⟩, hb⟩

theorem at_mrow {B : Nat} {w wr : World} {p : Option Addr} {ms : List (ByteArray × ByteArray)} (h : ms = [] ∨ ∃ b, p = some ⟨b, 0, none⟩ ∧ MCells w b ms) (hb : Below B w wr) (hB : w.heap.size ≤ B) {k : Nat} (hk : k < ms.length) :
    ∃ b, p = some ⟨b, 0, none⟩ ∧ wr.cell? ⟨b, k * 2, none⟩ = some (.string ms[k].1) ∧ wr.cell? ⟨b, k * 2 + 1, none⟩ = some (.string ms[k].2) := by
  rcases h with rfl | ⟨b, rfl, hc⟩
  · simp at hk
  · have hlt := Nat.lt_of_lt_of_le (block_lt (hc k hk).1) hB
    exact ⟨b, rfl, by rw [hb.cell (p := ⟨b, k * 2, none⟩) hlt]; exact (hc k hk).1, by rw [hb.cell (p := ⟨b, k * 2 + 1, none⟩) hlt]; exact (hc k hk).2⟩

set_option maxHeartbeats 400000 in
/-- zzIDsAsMembers -/
theorem asMembers_any (v : Value) (ids : List ByteArray) (hn : ids.length ≤ 4194304) (w : World) (hi : SS w v ids) :
    Calls Try.prog 12 #[v] w fun e w' => ∃ v', e = .returned v' ∧ MS w' v' (ids.map fun s => (s, ByteArray.empty)) ∧ Below w.heap.size w w' := by
  obtain ⟨p, c, rfl, hi⟩ := hi
  obtain ⟨wc, hmk, hcell, hfro, hbel, hsz⟩ := make_members ids.length (by omega) w
  have HP : Hid _ := MPart.made hcell hfro
  have HI : Hid _ := hi
  have HB : Hid _ := hbel
  clear hcell hfro hi hbel
  go_enter Try.func12, Try.ntmps12
  go_wp2
  go_loopw [4] (fun i wr => ∃ k : Nat, k ≤ ids.length ∧ i = .int .i64 k ∧ Hid (Below w.heap.size w wr) ∧ Hid (MPart wr w.heap.size ids.length ((ids.map fun s => (s, ByteArray.empty)).take k))) (fun i _ => ids.length - (intOf i).toNat)
  case atStart => exact ⟨0, Nat.zero_le _, rfl, HB.out, HP.out⟩
  case round =>
    obtain ⟨k, hk, rfl, HBr, HM⟩ := hrel
    by_cases hlt : k < ids.length
    · obtain ⟨b, off, rfl, hx⟩ := row_later HI.out HBr.out (Nat.le_refl _) hlt
      obtain ⟨s0, hc0⟩ := HM.out.1 (k * 2) (by omega)
      obtain ⟨s1, hc1⟩ := HM.out.1 (k * 2 + 1) (by omega)
      have hf0 := HM.out.2.1 (k * 2)
      have hf1 := HM.out.2.1 (k * 2 + 1)
      clear HI HP HB hmk
      go_wp2
      go_roundw
      case rel =>
        refine ⟨k + 1, by omega, by go_num, below_put2 HBr.out w.heap.size (Nat.le_refl _) _ _ _ _, ?_⟩
        have hz : (ids.map fun s => (s, ByteArray.empty)).take (k + 1) = (ids.map fun s => (s, ByteArray.empty)).take k ++ [(ids[k], ByteArray.empty)] := by
          rw [List.take_succ_eq_append_getElem (by simpa using hlt), List.getElem_map]
        rw [hz]
        exact MPart.snoc HM.out (by simp; omega) hlt ids[k] ByteArray.empty
      case measure => simp [intOf]; omega
    · go_wp2
      go_ret
      have := HM.out
      rw [List.take_of_length_le (by simp; omega)] at this
      exact ⟨.slice (some ⟨w.heap.size, 0, none⟩) ids.length ids.length, rfl, ⟨_, _, by rw [List.length_map], Or.inr ⟨_, rfl, this.2.2⟩⟩, HBr.out⟩

set_option maxHeartbeats 800000 in
/-- zzIDsConcat -/
theorem concat_any (va vb : Value) (xs ys : List (ByteArray × ByteArray)) (hn : xs.length + ys.length ≤ 4194304) (w : World) (ha : MS w va xs) (hb : MS w vb ys) :
    Calls Try.prog 11 #[va, vb] w fun e w' => ∃ v', e = .returned v' ∧ MS w' v' (xs ++ ys) ∧ Below w.heap.size w w' := by
  obtain ⟨p, c, rfl, ha⟩ := ha
  obtain ⟨q, d, rfl, hb⟩ := hb
  obtain ⟨wc, hmk, hcell, hfro, hbel, hsz⟩ := make_members (xs.length + ys.length) hn w
  rw [Int.natCast_add] at hmk
  have HP : Hid _ := MPart.made hcell hfro
  have HA : Hid _ := ha
  have HB : Hid _ := hb
  have HL : Hid _ := hbel
  clear hcell hfro ha hb hbel
  go_enter Try.func11, Try.ntmps11
  go_wp2
  go_loopw [6] (fun i wr => ∃ k : Nat, k ≤ xs.length ∧ i = .int .i64 k ∧ Hid (Below w.heap.size w wr) ∧ Hid (MPart wr w.heap.size (xs.length + ys.length) (xs.take k))) (fun i _ => xs.length - (intOf i).toNat)
  case atStart => exact ⟨0, Nat.zero_le _, rfl, HL.out, HP.out⟩
  case round =>
    obtain ⟨k, hk, rfl, HBr, HM⟩ := hrel
    by_cases hlt : k < xs.length
    · obtain ⟨b, rfl, hx, hy⟩ := at_mrow HA.out HBr.out (Nat.le_refl _) hlt
      obtain ⟨s0, hc0⟩ := HM.out.1 (k * 2) (by omega)
      obtain ⟨s1, hc1⟩ := HM.out.1 (k * 2 + 1) (by omega)
      have hf0 := HM.out.2.1 (k * 2)
      have hf1 := HM.out.2.1 (k * 2 + 1)
      clear HA HB HP HL hmk
      go_wp2
      go_roundw
      case rel =>
        refine ⟨k + 1, by omega, by go_num, below_put2 HBr.out w.heap.size (Nat.le_refl _) _ _ _ _, ?_⟩
        rw [List.take_succ_eq_append_getElem hlt]
        exact MPart.snoc HM.out (by simp; omega) (by omega) xs[k].1 xs[k].2
      case measure => simp [intOf]; omega
    · have hM : MPart wr w.heap.size (xs.length + ys.length) xs := by
        have := HM.out
        rwa [List.take_of_length_le (by omega)] at this
      have HM1 : Hid _ := hM
      clear hM HM HA HP HL hmk
      go_wp2
      go_loopw [7] (fun i wr => ∃ k : Nat, k ≤ ys.length ∧ i = .int .i64 k ∧ Hid (Below w.heap.size w wr) ∧ Hid (MPart wr w.heap.size (xs.length + ys.length) (xs ++ ys.take k))) (fun i _ => ys.length - (intOf i).toNat)
      case atStart => exact ⟨0, Nat.zero_le _, rfl, HBr.out, (List.append_nil xs).symm ▸ HM1.out⟩
      case round =>
        obtain ⟨m, hm, rfl, HBs, HN⟩ := hrel
        by_cases hlt2 : m < ys.length
        · obtain ⟨b2, rfl, hx, hy⟩ := at_mrow HB.out HBs.out (Nat.le_refl _) hlt2
          obtain ⟨s0, hc0⟩ := HN.out.1 ((xs.length + m) * 2) (by omega)
          obtain ⟨s1, hc1⟩ := HN.out.1 ((xs.length + m) * 2 + 1) (by omega)
          have hf0 := HN.out.2.1 ((xs.length + m) * 2)
          have hf1 := HN.out.2.1 ((xs.length + m) * 2 + 1)
          clear HB HM1
          go_wp2
          go_roundw
          case rel =>
            refine ⟨m + 1, by omega, by go_num, below_put2 HBs.out w.heap.size (Nat.le_refl _) _ _ _ _, ?_⟩
            rw [List.take_succ_eq_append_getElem hlt2, ← List.append_assoc]
            exact MPart.snoc HN.out (by simp; omega) (by omega) ys[m].1 ys[m].2
          case measure => simp [intOf]; omega
        · go_wp2
          go_ret
          have := HN.out
          rw [List.take_of_length_le (by omega)] at this
          exact ⟨.slice (some ⟨w.heap.size, 0, none⟩) (xs.length + ys.length) (xs.length + ys.length), rfl, ⟨_, _, by rw [List.length_append], Or.inr ⟨_, rfl, this.2.2⟩⟩, HBs.out⟩

end Go.Proofs.Qxb6626329a
