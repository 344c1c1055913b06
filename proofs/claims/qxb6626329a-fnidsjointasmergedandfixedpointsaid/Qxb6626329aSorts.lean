import Derived.Test.Qxb6626329aBase
import Derived.Test.Qxb6626329aPlain
import Derived.Test.Qxb6626329aShelf
import Derived.Sort.OwnSorted
import Derived.Lib.RowBridge
namespace Go.Proofs.Qxb6626329a
open Go.RowKit

/-- the Go string of these bytes -/
def mkB (l : List UInt8) : ByteArray := ⟨l.toArray⟩

theorem mkB_data (s : ByteArray) : mkB s.data.toList = s := rfl
theorem data_mkB (l : List UInt8) : (mkB l).data.toList = l := rfl

theorem enc_of (acc : List ByteArray) : acc.map Value.string = (acc.map (fun s => s.data.toList)).map encStr := by
  rw [List.map_map]; rfl

/-- sort.Strings, of a slice that the call owns -/
theorem sort_own {B : Nat} {v : Value} {n : Nat} {acc : List ByteArray} (hn : n < 4611686018427387904) (hl : acc.length = n) (w : World) (hown : w.ownsRow B 9 1 v n (acc.map Value.string)) :
    Calls Try.prog 17 #[v] w fun e w' => e = .returned (.tuple #[]) ∧
      w'.ownsRow B 9 1 v n (((acc.map (fun s => s.data.toList)).mergeSort fun x y => decide (x ≤ y)).map encStr) ∧ w.grownBy w' v.ownBlock := by
  rw [enc_of] at hown
  rcases hown.2 with ⟨rfl, rfl⟩ | ⟨g, cap, cur, rfl, hbase, hb, h1, h2, h3, h4⟩
  · have e : acc = [] := List.eq_nil_of_length_eq_zero hl
    subst e
    refine (Try.sort_Strings_none none 0 w).mono ?_
    rintro e w' ⟨rfl, rfl⟩
    exact ⟨rfl, by simpa using World.ownsRow_nil _ B 9 1, ⟨rfl, rfl, rfl, Nat.le_refl _, fun _ _ _ => rfl⟩⟩
  · obtain ⟨ss, hss⟩ : ∃ ss, ss = acc.map (fun s => s.data.toList) := ⟨_, rfl⟩
    rw [← hss] at h4 ⊢
    have hsl : ss.length = n := by rw [hss, List.length_map]; exact hl
    subst hsl
    refine (Try.sort_Strings g 0 cap ss w (holds_of_block hb (by simpa using h4)) (Array.getElem?_eq_some_iff.1 hb).1 hn).mono ?_
    rintro e w' ⟨rfl, nn, os, rfl⟩
    exact ⟨rfl, ownsRow_sorted (by simp) hbase hb h1 h2 h3, grownBy_sorted _⟩

/-- slices.Compact, of a slice that the call owns -/
theorem compact_own {B : Nat} {v : Value} {n : Nat} {ts : List (List UInt8)} (hn : n < 4611686018427387904) (hl : ts.length = n) (w : World) (hown : w.ownsRow B 9 1 v n (ts.map encStr)) :
    Calls Try.prog 18 #[v] w fun e w' => ∃ v', e = .returned v' ∧ SS w' v' ((Lib.compact ts).map mkB) ∧ w.grownBy w' v.ownBlock := by
  rcases hown.2 with ⟨rfl, rfl⟩ | ⟨g, cap, cur, rfl, hbase, hb, h1, h2, h3, h4⟩
  · have e : ts = [] := List.eq_nil_of_length_eq_zero hl
    subst e
    refine (Try.slices_Compact_string_empty none 0 w).mono ?_
    rintro e w' ⟨rfl, rfl⟩
    exact ⟨_, rfl, ⟨none, 0, rfl, Or.inl rfl⟩, ⟨rfl, rfl, rfl, Nat.le_refl _, fun _ _ _ => rfl⟩⟩
  · subst hl
    refine (Try.slices_Compact_string g 0 cap ts w (holds_of_block hb (by simpa using h4)) (by omega) h1).mono ?_
    rintro e w' ⟨rfl, q, rfl⟩
    have hcl : (Lib.compact ts).length ≤ ts.length := Lib.compact_length_le ts
    have hlen : (Lib.compact ts ++ List.replicate (ts.length - (Lib.compact ts).length) []).length = ts.length := by simp; omega
    have ho := ownsRow_sorted (n := q) (os := #[]) (ss := ts) hlen hbase hb h1 h2 h3
    have hg := grownBy_sorted (w := w) (g := g) (n := q) (os := #[]) (Lib.compact ts ++ List.replicate (ts.length - (Lib.compact ts).length) []).toArray
    rw [Sort.grow_empty] at ho hg
    refine ⟨_, rfl, ⟨some ⟨g, 0, none⟩, cap, by rw [List.length_map], Or.inr ⟨g, 0, rfl, ?_⟩⟩, hg⟩
    intro i hi
    have hi' : i < (Lib.compact ts).length := by simpa using hi
    rw [Nat.zero_add, ho.cellAt i (by omega), List.getElem?_map, List.getElem?_append_left hi', List.getElem?_eq_getElem hi', List.getElem_map]
    rfl

end Go.Proofs.Qxb6626329a
