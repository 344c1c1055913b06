/- The plain side of seat b6626233a: ASCII lower case on lists of bytes. No Go in sight. -/
namespace Go.Proofs.Qxb6626233a.Plain

/-- ASCII lower case of a byte. -/
def lowB (c : UInt8) : UInt8 := if 65 ≤ c.toNat ∧ c.toNat ≤ 90 then UInt8.ofNat (c.toNat + 32) else c

theorem lowB_up {c : UInt8} (h1 : 65 ≤ c.toNat) (h2 : c.toNat ≤ 90) : (lowB c).toNat = c.toNat + 32 := by
  unfold lowB; rw [if_pos ⟨h1, h2⟩]; simp; omega
theorem lowB_not {c : UInt8} (h : ¬ (65 ≤ c.toNat ∧ c.toNat ≤ 90)) : lowB c = c := by
  unfold lowB; rw [if_neg h]
theorem lowB_no_upper (c : UInt8) : ¬ (65 ≤ (lowB c).toNat ∧ (lowB c).toNat ≤ 90) := by
  by_cases h : 65 ≤ c.toNat ∧ c.toNat ≤ 90
  · rw [lowB_up h.1 h.2]; omega
  · rw [lowB_not h]; exact h
theorem lowB_twice (c : UInt8) : lowB (lowB c) = lowB c := lowB_not (lowB_no_upper c)

def lowL (l : List UInt8) : List UInt8 := l.map lowB

theorem lowL_twice (l : List UInt8) : lowL (lowL l) = lowL l := by
  unfold lowL; rw [List.map_map]; apply List.map_congr_left; intro c _; exact lowB_twice c

theorem lowL_cut (l : List UInt8) (k : Nat) : lowL (l.take k) ++ lowL (l.drop k) = lowL l := by
  unfold lowL; rw [← List.map_append, List.take_append_drop]

/-- the Go string's lower case -/
def lowS (s : ByteArray) : ByteArray := ⟨(lowL s.data.toList).toArray⟩

theorem lowS_data (s : ByteArray) : (lowS s).data.toList = lowL s.data.toList := by unfold lowS; simp
theorem lowS_size (s : ByteArray) : (lowS s).size = s.size := by
  show (lowL s.data.toList).toArray.size = s.data.size
  unfold lowL; simp
theorem ext_data {a b : ByteArray} (h : a.data.toList = b.data.toList) : a = b := by
  cases a; cases b; simp at h; subst h; rfl
theorem lowS_twice (s : ByteArray) : lowS (lowS s) = lowS s := by
  apply ext_data; rw [lowS_data, lowS_data, lowL_twice]
theorem lowS_same {s : ByteArray} (h : ∀ i (hi : i < s.size), ¬ (65 ≤ s[i].toNat ∧ s[i].toNat ≤ 90)) : lowS s = s := by
  apply ext_data; rw [lowS_data]; unfold lowL
  apply List.ext_getElem
  · simp
  · intro i h1 h2
    rw [List.getElem_map]
    exact lowB_not (h i (by simpa using h2))

theorem lowS_at (s : ByteArray) (i : Nat) (h : i < s.size) (h' : i < (lowS s).size) : (lowS s)[i] = lowB s[i] := by
  show (lowS s).data.toList[i]'(by simpa using h') = _
  simp only [lowS_data, lowL, List.getElem_map]
  rfl

end Go.Proofs.Qxb6626233a.Plain
