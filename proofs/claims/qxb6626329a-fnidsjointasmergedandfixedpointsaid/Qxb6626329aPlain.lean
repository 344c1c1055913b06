import Derived.Lib.SlicesCompact
import GoSem.Op.String
/- The plain side of seat b6626329a: what 'sort, then drop repeats' makes of a list of strings. -/
namespace Go.Proofs.Qxb6626329a.Plain

/-- sorted, each once -/
def idsL (l : List (List UInt8)) : List (List UInt8) := Lib.compact (l.mergeSort fun x y => decide (x ≤ y))

theorem getElem!_at (zs : List (List UInt8)) (i : Nat) (h : i < zs.length) : zs.toArray[i]! = zs[i] := by
  rw [getElem!_pos _ i (by simpa using h)]; simp

theorem compact_inv (zs : List (List UInt8)) (hs : zs.Pairwise (· ≤ ·)) : ∀ m, m ≤ zs.length →
    (Lib.compactUpTo zs.toArray m).Pairwise (· < ·) ∧ ∀ x, x ∈ Lib.compactUpTo zs.toArray m ↔ x ∈ zs.take m
  | 0, _ => by simp [Lib.compactUpTo]
  | m + 1, hm => by
    obtain ⟨ih1, ih2⟩ := compact_inv zs hs m (by omega)
    have hlt : m < zs.length := by omega
    rw [Lib.compactUpTo_succ, getElem!_at zs m hlt, List.take_succ_eq_append_getElem hlt]
    by_cases hk : Lib.keeps zs.toArray m = true
    · rw [if_pos hk]
      refine ⟨?_, ?_⟩
      · rw [List.pairwise_append]
        refine ⟨ih1, List.pairwise_singleton _ _, ?_⟩
        intro a ha b hb
        rw [List.mem_singleton] at hb; subst hb
        rw [ih2] at ha
        obtain ⟨i, hi, rfl⟩ := List.getElem_of_mem ha
        have hi' : i < m := by simp at hi; omega
        rw [List.getElem_take]
        have hm0 : m ≠ 0 := by omega
        unfold Lib.keeps at hk
        rw [decide_eq_true_eq] at hk
        rcases hk with h0 | hne
        · exact absurd h0 hm0
        · rw [getElem!_at zs m hlt, getElem!_at zs (m - 1) (by omega)] at hne
          have h1 : zs[i] ≤ zs[m - 1] := by
            by_cases e : i = m - 1
            · subst e; exact List.le_refl _
            · exact List.pairwise_iff_getElem.1 hs i (m - 1) (by omega) (by omega) (by omega)
          have h2 : zs[m - 1] ≤ zs[m] := List.pairwise_iff_getElem.1 hs (m - 1) m (by omega) hlt (by omega)
          have h3 : zs[i] ≤ zs[m] := List.le_trans h1 h2
          rcases List.le_iff_lt_or_eq.1 h3 with h | h
          · exact h
          · exfalso
            rw [h] at h1
            exact hne (List.le_antisymm h1 h2)
      · intro x
        rw [List.mem_append, List.mem_append, ih2]
    · have hk' : Lib.keeps zs.toArray m = false := by simpa using hk
      rw [hk', if_neg (by simp), List.append_nil]
      refine ⟨ih1, ?_⟩
      intro x
      rw [ih2, List.mem_append, List.mem_singleton]
      constructor
      · exact Or.inl
      · rintro (h | rfl)
        · exact h
        · unfold Lib.keeps at hk'
          rw [decide_eq_false_iff_not] at hk'
          have hm0 : m ≠ 0 := fun h => hk' (Or.inl h)
          have he : zs.toArray[m]! = zs.toArray[m - 1]! := by
            by_cases h : zs.toArray[m]! = zs.toArray[m - 1]!
            · exact h
            · exact absurd (Or.inr h) hk'
          rw [getElem!_at zs m hlt, getElem!_at zs (m - 1) (by omega)] at he
          rw [he]
          rw [List.mem_take_iff_getElem]
          exact ⟨m - 1, by omega, rfl⟩

theorem pw_of {α : Type} {R S : α → α → Prop} {l : List α} (h : l.Pairwise R) (f : ∀ a b, R a b → S a b) : l.Pairwise S := by
  rw [List.pairwise_iff_getElem] at h ⊢
  intro i j hi hj hij; exact f _ _ (h i j hi hj hij)

theorem sorted_merge (l : List (List UInt8)) : (l.mergeSort fun x y => decide (x ≤ y)).Pairwise (· ≤ ·) := by
  have tr : ∀ a b c : List UInt8, decide (a ≤ b) = true → decide (b ≤ c) = true → decide (a ≤ c) = true := fun a b c h1 h2 => by simp only [decide_eq_true_eq] at *; exact List.le_trans h1 h2
  have to : ∀ a b : List UInt8, (decide (a ≤ b) || decide (b ≤ a)) = true := fun a b => by simp only [Bool.or_eq_true, decide_eq_true_eq]; exact List.le_total a b
  exact pw_of (List.pairwise_mergeSort tr to l) (fun a b h => by simpa using h)

theorem idsL_lt (l : List (List UInt8)) : (idsL l).Pairwise (· < ·) := by
  unfold idsL Lib.compact
  exact (compact_inv _ (sorted_merge l) _ (Nat.le_refl _)).1

theorem mem_idsL (l : List (List UInt8)) (x : List UInt8) : x ∈ idsL l ↔ x ∈ l := by
  unfold idsL Lib.compact
  rw [(compact_inv _ (sorted_merge l) _ (Nat.le_refl _)).2, List.take_of_length_le (Nat.le_refl _), List.mem_mergeSort]

theorem unique {l m : List (List UInt8)} (hl : l.Pairwise (· < ·)) (hm : m.Pairwise (· < ·)) (h : ∀ x, x ∈ l ↔ x ∈ m) : l = m := by
  have nd : ∀ {k : List (List UInt8)}, k.Pairwise (· < ·) → k.Nodup := fun hk => pw_of hk (fun a b h e => by subst e; exact absurd h (List.lt_irrefl _))
  refine List.Perm.eq_of_pairwise (le := fun a b => a ≤ b) (fun a b _ _ h1 h2 => List.le_antisymm h1 h2) (pw_of hl fun _ _ h => List.le_of_lt h) (pw_of hm fun _ _ h => List.le_of_lt h) ?_
  exact (List.perm_ext_iff_of_nodup (nd hl) (nd hm)).2 h

theorem idsL_twice (l : List (List UInt8)) : idsL (idsL l) = idsL l :=
  unique (idsL_lt _) (idsL_lt _) (fun _ => mem_idsL _ _)

theorem bytesLess_lt : ∀ (x y : List UInt8), Op.bytesLess x y = decide (x < y)
  | [], [] => by simp [Op.bytesLess]
  | _ :: _, [] => by simp [Op.bytesLess]
  | [], _ :: _ => by simp [Op.bytesLess]
  | a :: x, b :: y => by
    rw [Op.bytesLess, bytesLess_lt x y]
    simp only [List.cons_lt_cons_iff]
    by_cases h1 : a < b <;> by_cases h2 : a = b <;> by_cases h3 : x < y <;> simp [h1, h2, h3]

end Go.Proofs.Qxb6626329a.Plain
