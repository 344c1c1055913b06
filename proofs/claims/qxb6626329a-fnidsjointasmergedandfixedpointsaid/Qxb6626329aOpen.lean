import Derived.Test.Qxb6626329aBase
import Derived.OpenShut
import Derived.SliceStrings
namespace Go.Proofs.Qxb6626329a
open Go.ChangeShapes Go.WideShapes Go.RowKit

theorem cells9 : Try.prog.cellsOf 9 = 1 := by kernel_rfl

/-- a slice of strings that came in, as the walks are told of it -/
theorem open_SS {H : Type} {enc : TypeId × Value → H} {W : World} {base : Nat} {spare : Nat → Bool} {held : Bool} {a : Option Addr} {len cap fuel : Nat} {x : DataW H × List MemPlace}
    (hf : DataW.trod enc Try.prog W base spare held fuel 22 (Value.slice a len cap).cells.toList = some x) :
    ∃ ss : List ByteArray, ss.length = len ∧ SS W (.slice a len cap) ss := by
  rcases open_strings Try.underlying22 Try.underlying9 cells9 hf with ⟨hcs, _⟩ | ⟨y, l, c, ss, hcs, _, hl, hm, hz, _, hcell, _⟩
  · simp [Value.cells] at hcs
    obtain ⟨rfl, rfl, rfl⟩ := hcs
    exact ⟨[], rfl, ⟨none, 0, rfl, Or.inl rfl⟩⟩
  · simp [Value.cells] at hcs
    obtain ⟨rfl, rfl, rfl⟩ := hcs
    have hlen : len ≤ ss.length := by rw [hz]; split <;> omega
    have htl : (ss.take len).length = len := by simp; omega
    refine ⟨ss.take len, htl, ⟨some y, cap, by rw [htl], ?_⟩⟩
    by_cases h0 : len = 0
    · left; subst h0; simp
    · right
      obtain ⟨b, off, spot⟩ := y
      have hspot : spot = none := by simpa [Addr.add] using World.cell?_spot (hcell 0 (by omega))
      subst hspot
      refine ⟨b, off, rfl, fun i hi => ?_⟩
      have hi' : i < ss.length := by omega
      rw [← add_plain, hcell i hi', List.getElem_take]
      simp [List.getD, hi']

end Go.Proofs.Qxb6626329a
