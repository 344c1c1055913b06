import Derived.Test.Qxb6626329aMembers
import Derived.Test.Qxb6626329aSorts
namespace Go.Proofs.Qxb6626329a
open Go.RowKit

theorem new_cell (w : World) (C : Array Value) (t : TypeId) (j : Nat) {g : Nat} (hg : g = w.heap.size) : (w.alloc (.cells C t)).cell? ⟨g, j, none⟩ = C[j]? := by
  subst hg
  have : (w.alloc (.cells C t)).heap[w.heap.size]? = some (.cells C t) := by
    show (w.heap.push (.cells C t))[w.heap.size]? = _
    simp
  unfold World.cell?
  rw [this]
  simp

set_option maxHeartbeats 400000 in
/-- Configuration.sets, of a joint one -/
theorem sets_two (p q : Option Addr) (n m c d : Nat) (hm : 0 < m) (w : World) :
    Calls Try.prog 16 #[.agg #[.slice p n c, .slice q m d]] w fun e w' => ∃ g, e = .returned (.slice (some ⟨g, 0, none⟩) 2 2) ∧ w'.cell? ⟨g, 0, none⟩ = some (.slice p n c) ∧ w'.cell? ⟨g, 1, none⟩ = some (.slice q m d) ∧ Below w.heap.size w w' := by
  go_enter Try.func16, Try.ntmps16
  go_wp2
  go_ret
  refine ⟨w.heap.size + 1 + 1, rfl, ?_, ?_, (((Below.refl _ _).alloc (Nat.le_refl _) _).alloc (by simp) _).alloc (by simp; omega) _⟩
  · exact new_cell _ _ _ _ (by simp)
  · exact new_cell _ _ _ _ (by simp)

set_option maxHeartbeats 400000 in
/-- Configuration.sets, of one that is not joint -/
theorem sets_one (p q : Option Addr) (n c d : Nat) (w : World) :
    Calls Try.prog 16 #[.agg #[.slice p n c, .slice q 0 d]] w fun e w' => ∃ g, e = .returned (.slice (some ⟨g, 0, none⟩) 1 1) ∧ w'.cell? ⟨g, 0, none⟩ = some (.slice p n c) ∧ Below w.heap.size w w' := by
  go_enter Try.func16, Try.ntmps16
  go_wp2
  go_ret
  refine ⟨w.heap.size + 1 + 1, rfl, ?_, (((Below.refl _ _).alloc (Nat.le_refl _) _).alloc (by simp) _).alloc (by simp; omega) _⟩
  exact new_cell _ _ _ _ (by simp)

/-- the row of sets: each a slice of members -/
def Sets (w : World) (g : Nat) (msl : List (List (ByteArray × ByteArray))) : Prop :=
  ∀ i (h : i < msl.length), ∃ v, w.cell? ⟨g, i, none⟩ = some v ∧ MS w v msl[i]

/-- Configuration.sets -/
theorem sets_any (p q : Option Addr) (c d : Nat) (ms os : List (ByteArray × ByteArray)) (w : World) (hm : MS w (.slice p ms.length c) ms) (ho : MS w (.slice q os.length d) os) :
    Calls Try.prog 16 #[.agg #[.slice p ms.length c, .slice q os.length d]] w fun e w' => ∃ g msl, e = .returned (.slice (some ⟨g, 0, none⟩) msl.length msl.length) ∧ Sets w' g msl ∧ msl.flatten = ms ++ os ∧ msl.length ≤ 2 ∧ Below w.heap.size w w' := by
  cases os with
  | nil =>
    refine (sets_one p q ms.length c d w).mono ?_
    rintro e w' ⟨g, rfl, hc, hb⟩
    refine ⟨g, [ms], rfl, ?_, by simp, by simp, hb⟩
    intro i hi
    have : i = 0 := by simpa using hi
    subst this
    exact ⟨_, hc, hm.below hb (Nat.le_refl _)⟩
  | cons o os =>
    refine (sets_two p q ms.length (o :: os).length c d (by simp) w).mono ?_
    rintro e w' ⟨g, rfl, hc, hc2, hb⟩
    refine ⟨g, [ms, o :: os], rfl, ?_, by simp, by simp, hb⟩
    intro i hi
    have : i = 0 ∨ i = 1 := by simp at hi; omega
    rcases this with rfl | rfl
    · exact ⟨_, hc, hm.below hb (Nat.le_refl _)⟩
    · exact ⟨_, hc2, ho.below hb (Nat.le_refl _)⟩

/-- the IDs of the first k sets -/
def gath (msl : List (List (ByteArray × ByteArray))) (k : Nat) : List ByteArray := (msl.take k).flatten.map Prod.fst

theorem gath_succ (msl : List (List (ByteArray × ByteArray))) (k : Nat) (h : k < msl.length) : gath msl (k + 1) = gath msl k ++ msl[k].map Prod.fst := by
  unfold gath; rw [List.take_succ_eq_append_getElem h, List.flatten_append, List.map_append, List.flatten_singleton]

theorem gath_all (msl : List (List (ByteArray × ByteArray))) (k : Nat) (h : msl.length ≤ k) : gath msl k = msl.flatten.map Prod.fst := by
  unfold gath; rw [List.take_of_length_le h]

theorem gath_le (msl : List (List (ByteArray × ByteArray))) (k : Nat) : (gath msl k).length ≤ msl.flatten.length := by
  unfold gath; rw [List.length_map]
  have h := congrArg (fun l => l.flatten.length) (List.take_append_drop k msl)
  simp only [List.flatten_append, List.length_append] at h
  omega

theorem snoc_take (L : List (ByteArray × ByteArray)) (m : Nat) (h : m < L.length) : (L.map Prod.fst).take (m + 1) = (L.map Prod.fst).take m ++ [L[m].1] := by
  rw [List.take_succ_eq_append_getElem (by simpa using h), List.getElem_map]

theorem own_snoc {w : World} {B : Nat} {v : Value} {acc : List ByteArray} {x : ByteArray} (h : w.ownsRow B 9 1 v (acc.length + 1) (acc.map Value.string ++ [Value.string x])) :
    w.ownsRow B 9 1 v (acc ++ [x]).length ((acc ++ [x]).map Value.string) := by
  simpa using h

theorem own_start (w : World) (B : Nat) (msl : List (List (ByteArray × ByteArray))) : w.ownsRow B 9 1 (.slice none 0 0) (gath msl 0).length ((gath msl 0).map Value.string) := by
  simpa [gath] using World.ownsRow_nil w B 9 1

theorem own_zero {w : World} {B : Nat} {v : Value} {acc l : List ByteArray} (h : w.ownsRow B 9 1 v acc.length (acc.map Value.string)) :
    w.ownsRow B 9 1 v (acc ++ l.take 0).length ((acc ++ l.take 0).map Value.string) := by
  simpa using h

set_option maxHeartbeats 1000000 in
/-- Configuration.IDs -/
theorem ids_any (p q : Option Addr) (c d : Nat) (ms os : List (ByteArray × ByteArray)) (hn : ms.length + os.length ≤ 4194304) (w : World) (hm : MS w (.slice p ms.length c) ms) (ho : MS w (.slice q os.length d) os) :
    Calls Try.prog 8 #[.agg #[.slice p ms.length c, .slice q os.length d]] w fun e w' => ∃ v, e = .returned v ∧ SS w' v ((Plain.idsL ((ms ++ os).map fun m => m.1.data.toList)).map mkB) ∧ Below w.heap.size w w' := by
  obtain ⟨i0, hi, hz0, hz1, hz2⟩ := info_parts info9
  have b0 : Below w.heap.size w (w.alloc (.cells #[.slice p ms.length c, .slice q os.length d] 27)) := (Below.refl _ _).alloc (Nat.le_refl _) _
  have HM : Hid _ := hm.below b0 (Nat.le_refl _)
  have HO : Hid _ := ho.below b0 (Nat.le_refl _)
  have HB0 : Hid _ := b0
  clear hm ho b0
  go_enter Try.func8, Try.ntmps8
  go_wp2_with fail
  refine (sets_any p q c d ms os _ HM.out HO.out).mono ?_
  rintro e w1 ⟨g, msl, rfl, hS, hfl, hml, hb1⟩
  have HS : Hid _ := hS
  have HF : Hid _ := hfl
  have HB1 : Hid (Below w.heap.size w w1) := HB0.out.trans (hb1.mono (by simp))
  have htot : msl.flatten.length ≤ 4194304 := by rw [hfl, List.length_append]; exact hn
  clear hS hfl hb1 HM HO HB0
  go_wp2_with fail
  go_loopw [3, 11] (fun v i wr => ∃ k : Nat, k ≤ msl.length ∧ i = .int .i64 k ∧ Hid (wr.ownsRow w1.heap.size 9 1 v (gath msl k).length ((gath msl k).map Value.string)) ∧ Hid (Below w1.heap.size w1 wr)) (fun _ i _ => msl.length - (intOf i).toNat)
  case atStart => exact ⟨0, Nat.zero_le _, rfl, own_start w1 w1.heap.size msl, Below.refl _ _⟩
  case round =>
    obtain ⟨k, hk, rfl, HW, HB⟩ := hrel
    by_cases hlt : k < msl.length
    · obtain ⟨v, hcv, hmv⟩ := HS.out k hlt
      obtain ⟨L, hL⟩ : ∃ L, L = msl[k] := ⟨_, rfl⟩
      rw [← hL] at hmv
      have HL : Hid _ := hL
      obtain ⟨p1, c1, rfl, hmc⟩ := hmv
      have HMC : Hid _ := hmc
      have hcr : wr.cell? ⟨g, k, none⟩ = some (.slice p1 L.length c1) := by
        rw [HB.out.cell (p := ⟨g, k, none⟩) (block_lt hcv)]; exact hcv
      have hLl : (gath msl k).length + L.length ≤ 4194304 := by
        have := gath_le msl (k + 1)
        rw [gath_succ msl k hlt, ← hL, List.length_append, List.length_map] at this
        omega
      clear hL hmc hcv
      go_wp2_with fail
      go_loopw [3, 17] (fun v i ws => ∃ m : Nat, m ≤ L.length ∧ i = .int .i64 m ∧ Hid (ws.ownsRow w1.heap.size 9 1 v (gath msl k ++ (L.map Prod.fst).take m).length ((gath msl k ++ (L.map Prod.fst).take m).map Value.string)) ∧ Hid (Below w1.heap.size w1 ws)) (fun _ i _ => L.length - (intOf i).toNat)
      case atStart => exact ⟨0, Nat.zero_le _, rfl, own_zero HW.out, HB.out⟩
      case round =>
        obtain ⟨m, hm, rfl, HV, HC⟩ := hrel
        by_cases hlt2 : m < L.length
        · obtain ⟨b, rfl, hx, hy⟩ := at_mrow HMC.out HC.out (Nat.le_refl _) hlt2
          have hal : (gath msl k ++ (L.map Prod.fst).take m).length ≤ 4194304 := by simp; omega
          have hsz : w1.heap.size ≤ wr.heap.size := HC.out.size
          obtain ⟨A, hA⟩ : ∃ A, A = gath msl k ++ (L.map Prod.fst).take m := ⟨_, rfl⟩
          have hV : wr.ownsRow w1.heap.size 9 1 u3 A.length (A.map Value.string) := by rw [hA]; exact HV.out
          rw [← hA] at hal
          have HVA : Hid (wr.ownsRow w1.heap.size 9 1 u3 A.length (A.map Value.string)) := hV
          have HAE : Hid (A = gath msl k ++ (L.map Prod.fst).take m) := hA
          clear hA hV HV
          go_wp2_with (at_builtin; refine wpList_append_own _ rfl _ _ 22 rfl w1.heap.size 9 i0 (.string ByteArray.empty) 1 16 Try.underlying22 hi hz0 hz1 hz2 rfl (by decide) _ _ _ rfl ((World.ownsRow.alloc HVA.out _).alloc _) ⟨wr.heap.size + 1, 0, none⟩ 1 1 [.string L[m].1] rfl rfl ?c1 ?c2 ?c3 ?c4 ?c5 ?_)
          case c1 =>
            intro j u hj
            match j, hj with
            | 0, hj => simp at hj; subst hj; simp [Addr.add]
          case c2 => intro u hu; simp at hu; subst hu; rfl
          case c3 => unfold maxLen; omega
          case c4 => omega
          case c5 => simp; omega
          · intro v' w2 hown' hgrow _
            have HO : Hid (w2.ownsRow w1.heap.size 9 1 v' (A.length + 1) (A.map Value.string ++ [Value.string L[m].1])) := hown'
            have HG : Hid _ := hgrow
            clear hown' hgrow
            go_wp2
            go_roundw
            case rel =>
              refine ⟨m + 1, by omega, by go_num, ?_, ?_⟩
              · rw [snoc_take L m hlt2, ← List.append_assoc, ← HAE.out]; exact own_snoc HO.out
              · exact ((HC.out.alloc hsz _).alloc (by simp; omega) _).grown HG.out (by simp; omega) (fun j hj => (World.ownsRow.lt HVA.out j hj).1)
            case measure => simp [intOf]; omega
        · have HV2 : Hid (wr.ownsRow w1.heap.size 9 1 u3 (gath msl (k + 1)).length ((gath msl (k + 1)).map Value.string)) := by
            have := HV.out
            rw [List.take_of_length_le (by simp; omega), HL.out, ← gath_succ msl k hlt] at this
            exact this
          clear HV
          go_wp2
          go_roundw
          case rel => exact ⟨k + 1, by omega, by go_num, HV2.out, HC.out⟩
          case measure => simp [intOf]; omega
    · have hgl := gath_le msl k
      go_wp2_with fail
      refine (sort_own (by omega) rfl _ HW.out).mono ?_
      rintro e w2 ⟨rfl, ho2, hg2⟩
      have HO2 : Hid (w2.ownsRow w1.heap.size 9 1 u3 (gath msl k).length ((((gath msl k).map (fun s => s.data.toList)).mergeSort fun x y => decide (x ≤ y)).map encStr)) := ho2
      have HG2 : Hid _ := hg2
      clear ho2 hg2
      go_wp2_with fail
      refine (compact_own (by omega) (by simp) _ HO2.out).mono ?_
      rintro e w3 ⟨v3, rfl, hs3, hg3⟩
      have HS3 : Hid _ := hs3
      have HG3 : Hid _ := hg3
      clear hs3 hg3
      go_wp2
      go_ret
      have e1 : (gath msl k).map (fun s => s.data.toList) = (ms ++ os).map (fun m => m.1.data.toList) := by
        rw [gath_all msl k (by omega), HF.out, List.map_map]; rfl
      have hb2 : Below w1.heap.size w1 w2 := HB.out.grown HG2.out HB.out.size (fun j hj => (World.ownsRow.lt HW.out j hj).1)
      have hb3 : Below w1.heap.size w1 w3 := hb2.grown HG3.out hb2.size (fun j hj => (World.ownsRow.lt HO2.out j hj).1)
      have hs : SS w3 v3 ((Plain.idsL ((ms ++ os).map fun m => m.1.data.toList)).map mkB) := by
        have := HS3.out
        rw [e1] at this
        exact this
      exact ⟨v3, rfl, hs, HB1.out.trans (hb3.mono HB1.out.size)⟩

end Go.Proofs.Qxb6626329a
