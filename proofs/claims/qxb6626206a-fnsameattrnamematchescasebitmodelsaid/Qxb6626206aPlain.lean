/- The plain side of seat b6626206a: ASCII lower case on bytes, and 'same name' on lists of bytes. No Go in sight. -/
namespace Go.Proofs.Qxb6626206a.Plain

/-- ASCII lower case of a byte's number. -/
def lowI (n : Int) : Int := if 65 ≤ n ∧ n ≤ 90 then n + 32 else n

def low (c : UInt8) : Int := lowI (c.toNat : Int)

/-- two lists of bytes are the same name -/
def sameB (a b : List UInt8) : Bool := decide (a.map low = b.map low)

theorem sameB_iff (a b : List UInt8) : sameB a b = true ↔ a.map low = b.map low := by
  unfold sameB; simp

theorem sameB_self (a : List UInt8) : sameB a a = true := by rw [sameB_iff]

theorem sameB_comm (a b : List UInt8) : sameB a b = sameB b a := by
  rw [Bool.eq_iff_iff, sameB_iff, sameB_iff]; exact ⟨Eq.symm, Eq.symm⟩

theorem sameB_len {a b : List UInt8} (h : a.length ≠ b.length) : sameB a b = false := by
  rw [Bool.eq_false_iff]; intro hs
  rw [sameB_iff] at hs
  apply h
  have := congrArg List.length hs
  simpa using this

theorem sameB_ne {a b : List UInt8} {k : Nat} {x y : UInt8} (ha : a[k]? = some x) (hb : b[k]? = some y) (h : low x ≠ low y) : sameB a b = false := by
  rw [Bool.eq_false_iff]; intro hs
  rw [sameB_iff] at hs
  have := congrArg (fun l : List Int => l[k]?) hs
  simp only [List.getElem?_map, ha, hb, Option.map_some, Option.some.injEq] at this
  exact h this

theorem sameB_cut (a b : List UInt8) (k : Nat) :
    sameB a b = (sameB (a.take k) (b.take k) && sameB (a.drop k) (b.drop k)) := by
  rw [Bool.eq_iff_iff, Bool.and_eq_true, sameB_iff, sameB_iff, sameB_iff]
  constructor
  · intro h
    rw [List.map_take, List.map_take, List.map_drop, List.map_drop, h]
    exact ⟨rfl, rfl⟩
  · rintro ⟨h1, h2⟩
    rw [← List.take_append_drop k a, ← List.take_append_drop k b, List.map_append, List.map_append, h1, h2]

end Go.Proofs.Qxb6626206a.Plain
