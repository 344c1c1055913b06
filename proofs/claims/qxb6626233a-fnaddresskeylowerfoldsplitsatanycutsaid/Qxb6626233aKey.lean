import Derived.Test.Qxb6626233aProg
import Derived.Test.Qxb6626233aPlain
import Derived.WalkKit
import Derived.WalkSpells
import Derived.WalkLawsBesides
import Derived.Laws.IdiomStrings
import Derived.Below
namespace Go.Proofs.Qxb6626233a
open Go.RowKit

/-- '[]byte(s)' at this program: what is known of the new row -/
theorem bytes_of (s : ByteArray) (w : World) : ∃ cap wc, (convert 9 27 (.string s)).run Try.prog w = .ok (.slice (some ⟨w.heap.size, 0, none⟩) s.size cap) wc ∧
    (∀ j (hj : j < s.size), wc.cell? ⟨w.heap.size, j, none⟩ = some (.int .u8 (s[j].toNat : Int))) ∧
    (∀ j, j < s.size → wc.frozen? ⟨w.heap.size, j, none⟩ = false) ∧ Below w.heap.size w wc := by
  refine ⟨_, _, run_bytes_of_string (P := Try.prog) w 9 27 5 s Try.underlying9 Try.underlying27 Try.underlying5, ?_, ?_, ?_⟩
  · intro j hj
    rw [show w.heap.size = w.drew.heap.size from rfl, World.cell?_alloc_mark]
    exact bytesRow_at s _ j hj
  · intro j hj
    rw [show w.heap.size = w.drew.heap.size from rfl, World.frozen?_alloc_mark]
    have : j < (bytesRow s (grownCap w s.size 0 5)).size := by unfold bytesRow; simp; omega
    simp; intro h; omega
  · exact (Below.refl _ w).drew.alloc (Nat.le_refl _) _

/-- what the loop has made of the string's bytes: those ahead of k are lowered -/
def mid (s : ByteArray) (k j : Nat) (hj : j < s.size) : UInt8 := if j < k then Plain.lowB s[j] else s[j]

def keyRel (s : ByteArray) (w : World) (k : Nat) (v : Value) (wr : World) : Prop :=
  (v = .slice none 0 0 ∧ wr = w ∧ ∀ j (hj : j < s.size), j < k → ¬ (65 ≤ s[j].toNat ∧ s[j].toNat ≤ 90)) ∨
  (∃ cap, v = .slice (some ⟨w.heap.size, 0, none⟩) s.size cap ∧ (∀ j (hj : j < s.size), wr.cell? ⟨w.heap.size, j, none⟩ = some (.int .u8 ((mid s k j hj).toNat : Int))) ∧
    (∀ j, j < s.size → wr.frozen? ⟨w.heap.size, j, none⟩ = false) ∧ Below w.heap.size w wr)

theorem mid_at (s : ByteArray) (k : Nat) (hk : k < s.size) : mid s k k hk = s[k] := by unfold mid; rw [if_neg (by omega)]
theorem mid_next (s : ByteArray) (k : Nat) (hk : k < s.size) : mid s (k + 1) k hk = Plain.lowB s[k] := by unfold mid; rw [if_pos (by omega)]
theorem mid_other (s : ByteArray) (k j : Nat) (hj : j < s.size) (h : j ≠ k) : mid s (k + 1) j hj = mid s k j hj := by
  unfold mid; by_cases h' : j < k
  · rw [if_pos h', if_pos (by omega)]
  · rw [if_neg h', if_neg (by omega)]
theorem mid_end (s : ByteArray) (k j : Nat) (hj : j < s.size) (h : s.size ≤ k) : mid s k j hj = Plain.lowB s[j] := by unfold mid; rw [if_pos (by omega)]
theorem mid_no (s : ByteArray) (k j : Nat) (hj : j < s.size) (h : j < k → ¬ (65 ≤ s[j].toNat ∧ s[j].toNat ≤ 90)) : mid s k j hj = s[j] := by
  unfold mid; split
  · exact Plain.lowB_not (h ‹_›)
  · rfl

theorem ret_string {a b : ByteArray} (h : a = b) : Ending.returned (.string a) = .returned (.string b) := by rw [h]

/-- the round stores the lowered byte -/
theorem rel_store {s : ByteArray} {w wr : World} {k cap : Nat} (hk : k < s.size) (h1 : 65 ≤ s[k].toNat) (h2 : s[k].toNat ≤ 90)
    (hcell : ∀ j (hj : j < s.size), wr.cell? ⟨w.heap.size, j, none⟩ = some (.int .u8 ((mid s k j hj).toNat : Int)))
    (hfro : ∀ j, j < s.size → wr.frozen? ⟨w.heap.size, j, none⟩ = false) (hbel : Below w.heap.size w wr) {x : Int} (hx : x = s[k].toNat + 32) :
    keyRel s w (k + 1) (.slice (some ⟨w.heap.size, 0, none⟩) s.size cap) (wr.setCell ⟨w.heap.size, k, none⟩ (.int .u8 x)) := by
  refine Or.inr ⟨cap, rfl, ?_, ?_, hbel.setCell (Nat.le_refl _) _⟩
  · intro j hj
    by_cases e : j = k
    · subst e
      rw [World.cell?_setCell_same _ _ _ (hcell j hj), mid_next, Plain.lowB_up h1 h2, hx]; rfl
    · rw [World.cell?_setCell_other _ _ _ _ (by intro h; injection h with _ h _; exact e h.symm), hcell j hj, mid_other s k j hj e]
  · intro j hj
    rw [World.frozen?_setCell]; exact hfro j hj

theorem rel_keep {s : ByteArray} {w wr : World} {k : Nat} {v : Value} (hk : k < s.size) (hup : ¬ (65 ≤ s[k].toNat ∧ s[k].toNat ≤ 90)) (h : keyRel s w k v wr) : keyRel s w (k + 1) v wr := by
  rcases h with ⟨rfl, rfl, hno⟩ | ⟨cap, rfl, hcell, hfro, hbel⟩
  · refine Or.inl ⟨rfl, rfl, fun j hj hlt => ?_⟩
    by_cases e : j = k
    · subst e; exact hup
    · exact hno j hj (by omega)
  · refine Or.inr ⟨cap, rfl, fun j hj => ?_, hfro, hbel⟩
    rw [hcell j hj]
    by_cases e : j = k
    · subst e; rw [mid_at, mid_next, Plain.lowB_not hup]
    · rw [mid_other s k j hj e]

theorem back_of {s : ByteArray} {w wr : World} {k cap : Nat} (hk : s.size ≤ k)
    (hcell : ∀ j (hj : j < s.size), wr.cell? ⟨w.heap.size, j, none⟩ = some (.int .u8 ((mid s k j hj).toNat : Int))) :
    (convert 27 9 (.slice (some ⟨w.heap.size, 0, none⟩) s.size cap)).run Try.prog wr = .ok (.string (Plain.lowS s)) wr := by
  have hl : (Plain.lowL s.data.toList).length = s.size := by unfold Plain.lowL; simp
  have := run_convert_bytes_back (P := Try.prog) wr 27 9 5 ⟨w.heap.size, 0, none⟩ cap (Plain.lowL s.data.toList) Try.underlying27 Try.underlying5 Try.underlying9 (by
    intro j hj
    rw [hl] at hj
    have e : (⟨w.heap.size, 0, none⟩ : Addr).add j = ⟨w.heap.size, j, none⟩ := by unfold Addr.add; split <;> simp_all
    rw [e, hcell j hj, mid_end s k j hj hk]
    simp only [Plain.lowL, List.getElem_map]
    rfl)
  rw [hl] at this
  exact this

set_option maxHeartbeats 400000 in
theorem key_any (s : ByteArray) (hs : s.size ≤ maxLen) (w : World) :
    Calls Try.prog 10 #[.string s] w fun e w' => e = .returned (.string (Plain.lowS s)) ∧ Below w.heap.size w w' := by
  unfold maxLen at hs
  have hnil := fun (wx : World) (a : Option Addr) (n c : Nat) => Lib.run_eql_slice_nil (P := Try.prog) wx 27 5 a n c 0 0 Try.underlying27
  go_enter Try.func10, Try.ntmps10
  go_wp2
  go_loopw [3, 8] (fun v i wr => ∃ k : Nat, k ≤ s.size ∧ i = .int .i64 k ∧ Hid (keyRel s w k v wr)) (fun _ i _ => s.size - (intOf i).toNat)
  case atStart => exact ⟨0, Nat.zero_le _, rfl, Or.inl ⟨rfl, rfl, fun _ _ h => absurd h (Nat.not_lt_zero _)⟩⟩
  case round =>
    obtain ⟨k, hk, rfl, HR⟩ := hrel
    by_cases hlt : k < s.size
    · have hb := UInt8.toNat_lt s[k]
      by_cases hup : 65 ≤ s[k].toNat ∧ s[k].toNat ≤ 90
      · obtain ⟨u1, u2⟩ := hup
        rcases HR.out with ⟨rfl, rfl, hno⟩ | ⟨cap, rfl, hcell, hfro, hbel⟩
        · obtain ⟨cap, wc, hcv, hcell, hfro, hbel⟩ := bytes_of s wr
          have hck := hcell k hlt
          have hfk := hfro k hlt
          have HC : Hid _ := hcell
          have HF : Hid _ := hfro
          have HN : Hid _ := hno
          clear hcell hfro hno HR
          go_wp2
          go_roundw
          case rel =>
            refine ⟨k + 1, by omega, by go_num, rel_store hlt u1 u2 ?_ HF.out hbel (by omega)⟩
            intro j hj
            rw [HC.out j hj, mid_no s k j hj (HN.out j hj)]
          case measure => simp [intOf]; omega
        · have hck := hcell k hlt
          rw [mid_at] at hck
          have hfk := hfro k hlt
          have HC : Hid _ := hcell
          have HF : Hid _ := hfro
          clear hcell hfro HR
          go_wp2
          go_roundw
          case rel => exact ⟨k + 1, by omega, by go_num, rel_store hlt u1 u2 HC.out HF.out hbel (by omega)⟩
          case measure => simp [intOf]; omega
      · by_cases u1 : 65 ≤ s[k].toNat
        · have u2 : 90 < s[k].toNat := by omega
          have HU : Hid _ := hup
          clear hup
          go_wp2
          go_roundw
          case rel => exact ⟨k + 1, by omega, by go_num, rel_keep hlt HU.out HR.out⟩
          case measure => simp [intOf]; omega
        · have HU : Hid _ := hup
          clear hup
          go_wp2
          go_roundw
          case rel => exact ⟨k + 1, by omega, by go_num, rel_keep hlt HU.out HR.out⟩
          case measure => simp [intOf]; omega
    · rcases HR.out with ⟨rfl, rfl, hno⟩ | ⟨cap, rfl, hcell, hfro, hbel⟩
      · have HN : Hid _ := hno
        clear hno HR
        go_wp2
        go_ret
        exact ⟨ret_string (Plain.lowS_same (fun i hi => HN.out i hi (by omega))).symm, Below.refl _ _⟩
      · have hback := back_of (cap := cap) (Nat.le_of_not_lt hlt) hcell
        clear hcell hfro HR
        go_wp2
        go_ret
        exact ⟨rfl, hbel⟩

/-- world.ZZaddressKey -/
theorem zz_any (s : ByteArray) (hs : s.size ≤ maxLen) (w : World) :
    Calls Try.prog 6 #[.string s] w fun e w' => e = .returned (.string (Plain.lowS s)) ∧ Below w.heap.size w w' := by
  go_enter Try.func6, Try.ntmps6
  go_wp2_with (go_at_call 10; refine (key_any s hs _).mono ?_; rintro e w1 ⟨rfl, hb1⟩)
  go_ret
  exact ⟨rfl, hb1⟩

end Go.Proofs.Qxb6626233a
