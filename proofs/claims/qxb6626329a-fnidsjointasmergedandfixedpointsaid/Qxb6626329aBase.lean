import Derived.Test.Qxb6626329aProg
import Derived.WalkKit
import Derived.WalkSpells
import Derived.WalkLawsBesides
import Derived.Below
namespace Go.Proofs.Qxb6626329a
open Go.RowKit

/-- the strings of a row, from an address on -/
def SCells (w : World) (b off : Nat) (ss : List ByteArray) : Prop := ∀ i (h : i < ss.length), w.cell? ⟨b, off + i, none⟩ = some (.string ss[i])

/-- the slice value v (of strings) reads as ss -/
def SS (w : World) (v : Value) (ss : List ByteArray) : Prop :=
  ∃ p cap, v = .slice p ss.length cap ∧ (ss = [] ∨ ∃ b off, p = some ⟨b, off, none⟩ ∧ SCells w b off ss)

/-- the members of a row: two cells each -/
def MCells (w : World) (b : Nat) (ms : List (ByteArray × ByteArray)) : Prop :=
  ∀ i (h : i < ms.length), w.cell? ⟨b, i * 2, none⟩ = some (.string ms[i].1) ∧ w.cell? ⟨b, i * 2 + 1, none⟩ = some (.string ms[i].2)

/-- the slice value v (of members) reads as ms -/
def MS (w : World) (v : Value) (ms : List (ByteArray × ByteArray)) : Prop :=
  ∃ p cap, v = .slice p ms.length cap ∧ (ms = [] ∨ ∃ b, p = some ⟨b, 0, none⟩ ∧ MCells w b ms)

theorem block_lt {w : World} {b o : Nat} {v : Value} (h : w.cell? ⟨b, o, none⟩ = some v) : b < w.heap.size := World.block_lt_of_cell? w _ h

theorem SS.below {B : Nat} {w w' : World} {v : Value} {ss : List ByteArray} (h : SS w v ss) (hb : Below B w w') (hB : w.heap.size ≤ B) : SS w' v ss := by
  obtain ⟨p, cap, rfl, h | ⟨b, off, rfl, hc⟩⟩ := h
  · exact ⟨p, cap, rfl, Or.inl h⟩
  · refine ⟨_, cap, rfl, Or.inr ⟨b, off, rfl, fun i hi => ?_⟩⟩
    rw [hb.cell (p := ⟨b, off + i, none⟩) (Nat.lt_of_lt_of_le (block_lt (hc i hi)) hB)]
    exact hc i hi

theorem MS.below {B : Nat} {w w' : World} {v : Value} {ms : List (ByteArray × ByteArray)} (h : MS w v ms) (hb : Below B w w') (hB : w.heap.size ≤ B) : MS w' v ms := by
  obtain ⟨p, cap, rfl, h | ⟨b, rfl, hc⟩⟩ := h
  · exact ⟨p, cap, rfl, Or.inl h⟩
  · refine ⟨_, cap, rfl, Or.inr ⟨b, rfl, fun i hi => ?_⟩⟩
    have hlt := Nat.lt_of_lt_of_le (block_lt (hc i hi).1) hB
    rw [hb.cell (p := ⟨b, i * 2, none⟩) hlt, hb.cell (p := ⟨b, i * 2 + 1, none⟩) hlt]
    exact hc i hi

theorem below_drewN {B : Nat} {a w : World} (h : Below B a w) (n : Nat) : Below B a (w.drewN n) := ⟨h.os, h.tape, h.output, h.size, h.block⟩

theorem ret_bool {x y : Bool} (h : x = y) : Ending.returned (.bool x) = .returned (.bool y) := by rw [h]
theorem ret_int {k : IntKind} {a b : Int} (h : a = b) : Ending.returned (.int k a) = .returned (.int k b) := by rw [h]

theorem info36 : (Try.prog.info? 36).map (fun i => (i.zero, i.size, i.bytes)) = some (some (.agg #[.string ByteArray.empty, .string ByteArray.empty]), 2, 32) := by kernel_rfl
theorem info9 : (Try.prog.info? 9).map (fun i => (i.zero, i.size, i.bytes)) = some (some (.string ByteArray.empty), 1, 16) := by kernel_rfl
theorem info4 : (Try.prog.info? 4).map (fun i => (i.zero, i.size, i.bytes)) = some (some (.bool false), 1, 1) := by kernel_rfl

/-- 'make([]Member, n)' -/
theorem make_members (n : Nat) (hn : n ≤ 4194304) (w : World) : ∃ wc, (Instr.makeSlice 24 (.int .i64 (n : Int)) (.int .i64 (n : Int))).run Try.prog w = .ok (.slice (some ⟨w.heap.size, 0, none⟩) n n) wc ∧
    (∀ j, j < n * 2 → wc.cell? ⟨w.heap.size, j, none⟩ = some (.string ByteArray.empty)) ∧ (∀ j, wc.frozen? ⟨w.heap.size, j, none⟩ = false) ∧ Below w.heap.size w wc ∧ w.heap.size < wc.heap.size := by
  obtain ⟨i, hi, hz⟩ := Option.map_eq_some_iff.1 info36
  simp only [Prod.mk.injEq] at hz
  obtain ⟨hz, hs, hby⟩ := hz
  obtain ⟨wc, hr, hown, hg⟩ := run_make_full (P := Try.prog) w w.heap.size 24 36 i _ 2 Try.underlying24 hi hz hs .i64 .i64 n (by rw [hby]; omega) (by unfold maxLen; omega) (Nat.le_refl _)
  refine ⟨wc, hr, ?_, fun j => hown.frozenAt j, (Below.refl _ _).grown hg (Nat.le_refl _) (fun k h => by cases h), ?_⟩
  · intro j hj
    rw [hown.cellAt j hj, Array.getElem?_toList]
    have h2 : (Value.agg #[Value.string ByteArray.empty, Value.string ByteArray.empty]).cells = #[Value.string ByteArray.empty, Value.string ByteArray.empty] := rfl
    rw [h2]
    unfold madeCells
    rw [Array.getElem?_map, Array.getElem?_range, if_pos hj]
    simp only [Option.map_some, Option.some.injEq]
    have : j % 2 = 0 ∨ j % 2 = 1 := by omega
    rcases this with h | h <;> simp [h]
  · exact (hown.lt _ rfl).2

end Go.Proofs.Qxb6626329a
