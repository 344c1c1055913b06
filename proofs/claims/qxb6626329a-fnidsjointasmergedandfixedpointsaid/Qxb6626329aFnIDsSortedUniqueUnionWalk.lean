import Derived.Test.Qxb6626329aIDs
import Derived.Test.Qxb6626329aFind
import Derived.Deep.OwnRows
import Derived.Laws.IdiomStrings
namespace Go.Proofs.Qxb6626329a
open Go.RowKit

/-- what the law's result list is -/
def rsOf (s0 s2 : List ByteArray) : List ByteArray := (Plain.idsL ((s0 ++ s2).map fun s => s.data.toList)).map mkB

theorem mem_rsOf (s0 s2 : List ByteArray) (x : ByteArray) : x ∈ rsOf s0 s2 ↔ x ∈ s0 ++ s2 := by
  unfold rsOf
  rw [List.mem_map]
  constructor
  · rintro ⟨l, hl, rfl⟩
    rw [Plain.mem_idsL, List.mem_map] at hl
    obtain ⟨s, hs, rfl⟩ := hl
    rw [mkB_data]; exact hs
  · intro h
    exact ⟨x.data.toList, by rw [Plain.mem_idsL, List.mem_map]; exact ⟨x, h, rfl⟩, mkB_data x⟩

theorem inc_rsOf (s0 s2 : List ByteArray) : Inc (rsOf s0 s2) := by
  intro i j hi hj hij
  unfold rsOf at hi hj ⊢
  have hi' : i < (Plain.idsL ((s0 ++ s2).map fun s => s.data.toList)).length := by simpa using hi
  have hj' : j < (Plain.idsL ((s0 ++ s2).map fun s => s.data.toList)).length := by simpa using hj
  rw [List.getElem_map, List.getElem_map, ByteArray.toList_eq, ByteArray.toList_eq, data_mkB, data_mkB, Plain.bytesLess_lt, decide_eq_true_eq]
  exact List.pairwise_iff_getElem.1 (Plain.idsL_lt _) i j hi' hj' hij

theorem len_rsOf (s0 s2 : List ByteArray) : (rsOf s0 s2).length ≤ s0.length + s2.length := by
  unfold rsOf Plain.idsL
  rw [List.length_map]
  have := Lib.compact_length_le (((s0 ++ s2).map fun s => s.data.toList).mergeSort fun x y => decide (x ≤ y))
  simpa using this

theorem fst_zip (s t : List ByteArray) (h : t.length = s.length) : (s.zip t).map Prod.fst = s := by
  rw [List.map_fst_zip]; omega

theorem rs_zip (s0 s1 s2 s3 : List ByteArray) (h1 : s1.length = s0.length) (h3 : s3.length = s2.length) :
    (Plain.idsL (((s0.zip s1) ++ (s2.zip s3)).map fun m => m.1.data.toList)).map mkB = rsOf s0 s2 := by
  unfold rsOf
  have : ((s0.zip s1) ++ (s2.zip s3)).map (fun m => m.1.data.toList) = (s0 ++ s2).map fun s => s.data.toList := by
    have e : (fun m : ByteArray × ByteArray => m.1.data.toList) = (fun s : ByteArray => s.data.toList) ∘ Prod.fst := rfl
    rw [e, ← List.map_map, List.map_append, fst_zip s0 s1 h1, fst_zip s2 s3 h3]
  rw [this]

theorem marked_new (w : World) (n : Nat) : Marked (w.alloc (.cells (madeCells #[.bool false] n) 4)) w.heap.size n (fun _ => False) := by
  intro j hj
  refine ⟨⟨false, ?_, fun h => h.elim⟩, ?_⟩
  · rw [new_cell w _ _ _ rfl, ← Array.getElem?_toList, toList_madeCells_one]
    simp [hj]
  · rw [World.frozen?_alloc_mark]; simp

set_option maxHeartbeats 1000000 in
theorem law3_walk (p0 p1 p2 p3 : Option Addr) (c0 c1 c2 c3 : Nat) (s0 s1 s2 s3 : List ByteArray) (w : World)
    (h0 : SS w (.slice p0 s0.length c0) s0) (h1 : SS w (.slice p1 s1.length c1) s1) (h2 : SS w (.slice p2 s2.length c2) s2) (h3 : SS w (.slice p3 s3.length c3) s3) :
    Calls Try.prog 3 #[.slice p0 s0.length c0, .slice p1 s1.length c1, .slice p2 s2.length c2, .slice p3 s3.length c3] w fun e w' => e = .returned (.bool true) ∧ Below w.heap.size w w' := by
  have H0 : Hid (SS w (.slice p0 s0.length c0) s0) := h0
  have H1 : Hid (SS w (.slice p1 s1.length c1) s1) := h1
  have H2 : Hid (SS w (.slice p2 s2.length c2) s2) := h2
  have H3 : Hid (SS w (.slice p3 s3.length c3) s3) := h3
  obtain ⟨zm, ezm⟩ : ∃ z, z = s0.zip s1 := ⟨_, rfl⟩
  obtain ⟨zo, ezo⟩ : ∃ z, z = s2.zip s3 := ⟨_, rfl⟩
  have EM : Hid (zm = s0.zip s1) := ezm
  have EO : Hid (zo = s2.zip s3) := ezo
  clear h0 h1 h2 h3 ezm ezo
  go_enter Try.func3, Try.ntmps3
  go_wp2_with fail
  refine (bytes5 _ _ _ _ s0 s1 s2 s3 w H0.out H1.out H2.out H3.out).mono ?_
  rintro e wA ⟨⟨r, rfl⟩, hw⟩
  have hw' := hw.symm
  subst hw'
  clear hw
  cases r
  case false =>
    go_wp2
    go_ret
    exact ⟨rfl, Below.refl _ _⟩
  go_wp2_with fail
  refine (tooBig_any _ _ _ _ s0 s1 s2 s3 _ H0.out H1.out H2.out H3.out).mono ?_
  rintro e wA ⟨⟨r, rfl, hbig⟩, hw⟩
  have hw' := hw.symm
  subst hw'
  clear hw
  cases r
  case true =>
    clear hbig
    go_wp2
    go_ret
    exact ⟨rfl, Below.refl _ _⟩
  have hb := hbig rfl
  clear hbig
  by_cases e1 : s1.length = s0.length
  case neg =>
    have t1 : ((s1.length : Int) != (s0.length : Int)) = true := by simp; omega
    go_wp2
    go_ret
    exact ⟨rfl, Below.refl _ _⟩
  by_cases e3 : s3.length = s2.length
  case neg =>
    have t1 : ((s1.length : Int) != (s0.length : Int)) = false := by simp; omega
    have t3 : ((s3.length : Int) != (s2.length : Int)) = true := by simp; omega
    clear e1
    go_wp2
    go_ret
    exact ⟨rfl, Below.refl _ _⟩
  have t1 : ((s1.length : Int) != (s0.length : Int)) = false := by simp; omega
  have t3 : ((s3.length : Int) != (s2.length : Int)) = false := by simp; omega
  have E1 : Hid (s1.length = s0.length) := e1
  have E3 : Hid (s3.length = s2.length) := e3
  clear e1 e3
  go_wp2_with fail
  refine (members_any _ _ s0 s1 E1.out (by omega) w H0.out H1.out).mono ?_
  rintro e w1 ⟨vm, rfl, hm, hb1⟩
  rw [← EM.out] at hm
  have H2' : Hid (SS w1 (.slice p2 s2.length c2) s2) := H2.out.below hb1 (Nat.le_refl _)
  have H3' : Hid (SS w1 (.slice p3 s3.length c3) s3) := H3.out.below hb1 (Nat.le_refl _)
  obtain ⟨pm, cm, rfl, hmc⟩ := hm
  have HM : Hid (MS w1 (.slice pm zm.length cm) zm) := ⟨pm, cm, rfl, hmc⟩
  have HB1 : Hid (Below w.heap.size w w1) := hb1
  clear hmc hb1
  go_wp2_with fail
  refine (members_any _ _ s2 s3 E3.out (by omega) w1 H2'.out H3'.out).mono ?_
  rintro e w2 ⟨vo, rfl, ho, hb2⟩
  rw [← EO.out] at ho
  have HM2 : Hid (MS w2 (.slice pm zm.length cm) zm) := HM.out.below hb2 (Nat.le_refl _)
  have HB2 : Hid (Below w.heap.size w w2) := HB1.out.trans (hb2.mono HB1.out.size)
  obtain ⟨po, co, rfl, hoc⟩ := ho
  have HO : Hid (MS w2 (.slice po zo.length co) zo) := ⟨po, co, rfl, hoc⟩
  clear hoc hb2 HM H2' H3' HB1
  have b3 : Below w2.heap.size w2 (w2.alloc (.cells #[.slice pm zm.length cm, .slice po zo.length co] 27)) := (Below.refl _ _).alloc (Nat.le_refl _) _
  have HM3 : Hid _ := HM2.out.below b3 (Nat.le_refl _)
  have HO3 : Hid _ := HO.out.below b3 (Nat.le_refl _)
  have HB3 : Hid _ := HB2.out.trans (b3.mono HB2.out.size)
  clear b3
  have hzl : zm.length + zo.length ≤ 4194304 := by rw [EM.out, EO.out, List.length_zip, List.length_zip]; omega
  go_wp2_with fail
  refine (ids_any pm po cm co zm zo hzl _ HM3.out HO3.out).mono ?_
  rintro e w4 ⟨vr, rfl, hr, hb4⟩
  have hrz : (Plain.idsL ((zm ++ zo).map fun m => m.1.data.toList)).map mkB = rsOf s0 s2 := by rw [EM.out, EO.out]; exact rs_zip s0 s1 s2 s3 E1.out E3.out
  rw [hrz] at hr
  obtain ⟨rs, ers⟩ : ∃ rs, rs = rsOf s0 s2 := ⟨_, rfl⟩
  rw [← ers] at hr
  obtain ⟨pr, cr, rfl, hrc⟩ := hr
  have HR : Hid (SS w4 (.slice pr rs.length cr) rs) := ⟨pr, cr, rfl, hrc⟩
  have HRC : Hid (rs = [] ∨ ∃ b off, pr = some ⟨b, off, none⟩ ∧ SCells w4 b off rs) := hrc
  have ERS : Hid (rs = rsOf s0 s2) := ers
  have HB4 : Hid (Below w.heap.size w w4) := HB3.out.trans (hb4.mono HB3.out.size)
  have hrl : rs.length ≤ 65536 := by rw [ers]; have := len_rsOf s0 s2; omega
  have HI : Hid (Inc rs) := by rw [ers]; exact inc_rsOf s0 s2
  have HMem : Hid (∀ x, x ∈ rs ↔ x ∈ s0 ++ s2) := by rw [ers]; exact mem_rsOf s0 s2
  clear hrz ers hrc hb4 HM3 HO3 HB3 HM2 HO HB2 hzl
  go_wp2_with fail
  go_loopw [11] (fun i wr => ∃ k : Nat, (k = 0 ∨ k < rs.length) ∧ i = .int .i64 ((k : Int) + 1) ∧ Hid (∃ n, wr = w4.drewN n)) (fun i _ => rs.length - (intOf i).toNat)
  case atStart => exact ⟨0, Or.inl rfl, rfl, ⟨0, rfl⟩⟩
  case round =>
    obtain ⟨k, hk, rfl, HW⟩ := hrel
    by_cases hlt : k + 1 < rs.length
    · have hlt0 : k < rs.length := by omega
      obtain ⟨b, off, rfl, hc0⟩ := at_row HRC.out hlt0
      obtain ⟨b', off', e, hc1⟩ := at_row HRC.out hlt
      obtain ⟨rfl, rfl⟩ : b = b' ∧ off = off' := by injection e with e; injection e with e1 e2; exact ⟨e1, e2⟩
      have d0 : wr.cell? ⟨b, off + k, none⟩ = some (.string rs[k]) := by obtain ⟨n, rfl⟩ := HW.out; exact hc0
      have d1 : wr.cell? ⟨b, off + (k + 1), none⟩ = some (.string rs[k + 1]) := by obtain ⟨n, rfl⟩ := HW.out; exact hc1
      have hless := HI.out k (k + 1) hlt0 hlt (by omega)
      clear hc0 hc1 e
      go_wp2
      go_quiet (fail)
      go_wp2
      go_round
      case rel => exact ⟨k + 1, Or.inr hlt, by go_num, drewN_more HW.out nq⟩
      case measure => simp [intOf]; omega
    · have hmk := run_make_row' (P := Try.prog) 29 4 (.bool false) 1 Try.underlying29 info4 rfl .i64 .i64 rs.length (by omega) (by omega)
      have hb4r : Below wr.heap.size w4 wr := by obtain ⟨n, rfl⟩ := HW.out; exact below_drewN (Below.refl _ _) n
      have hs4 : w4.heap.size ≤ wr.heap.size := hb4r.size
      have hb46 : Below wr.heap.size w4 (wr.alloc (.cells (madeCells #[.bool false] rs.length) 4)) := hb4r.alloc (Nat.le_refl _) _
      have K0 : Hid (∀ wx, Below wr.heap.size (wr.alloc (.cells (madeCells #[.bool false] rs.length) 4)) wx → SS wx (.slice p0 s0.length c0) s0) :=
        fun wx hx => (H0.out.below HB4.out (Nat.le_refl _)).below (hb46.trans hx) hs4
      have K2 : Hid (∀ wx, Below wr.heap.size (wr.alloc (.cells (madeCells #[.bool false] rs.length) 4)) wx → SS wx (.slice p2 s2.length c2) s2) :=
        fun wx hx => (H2.out.below HB4.out (Nat.le_refl _)).below (hb46.trans hx) hs4
      have KR : Hid (∀ wx, Below wr.heap.size (wr.alloc (.cells (madeCells #[.bool false] rs.length) 4)) wx → SS wx (.slice pr rs.length cr) rs) :=
        fun wx hx => HR.out.below (hb46.trans hx) hs4
      have A0 : Hid (∀ x ∈ s0, x ∈ rs) := fun x hx => (HMem.out x).2 (List.mem_append_left _ hx)
      have A2 : Hid (∀ x ∈ s2, x ∈ rs) := fun x hx => (HMem.out x).2 (List.mem_append_right _ hx)
      have HB6 : Hid (Below w.heap.size w (wr.alloc (.cells (madeCells #[.bool false] rs.length) 4))) := HB4.out.trans (hb46.mono (Nat.le_trans HB4.out.size hs4))
      have hws : w.heap.size ≤ wr.heap.size := Nat.le_trans HB4.out.size hs4
      clear HRC hb4r hb46 HB4 HR H0 H1 H2 H3
      go_wp2_with fail
      refine (mark_any (.slice pr rs.length cr) (.slice p0 s0.length c0) rs s0 (by omega) (by omega) HI.out A0.out wr.heap.size (fun _ => False) _ KR.out K0.out (marked_new wr rs.length)).mono ?_
      rintro e w7 ⟨rfl, hM7, hb7⟩
      have M7 : Hid _ := hM7
      have B7 : Hid _ := hb7
      clear hM7 hb7
      go_wp2_with fail
      refine (mark_any (.slice pr rs.length cr) (.slice p2 s2.length c2) rs s2 (by omega) (by omega) HI.out A2.out wr.heap.size _ w7 (fun wx hx => KR.out wx (Below.trans B7.out hx)) (fun wx hx => K2.out wx (Below.trans B7.out hx)) M7.out).mono ?_
      rintro e w8 ⟨rfl, hM8, hb8⟩
      have hall : ∀ j (hj : j < rs.length), w8.cell? ⟨wr.heap.size, j, none⟩ = some (.bool true) := by
        intro j hj
        obtain ⟨⟨b, hb, ht⟩, _⟩ := hM8 j hj
        have hin := (HMem.out rs[j]).1 (List.getElem_mem hj)
        rw [List.mem_append] at hin
        rw [hb, ht (by rcases hin with h | h; exact Or.inl (Or.inr ⟨hj, h⟩); exact Or.inr ⟨hj, h⟩)]
      have HAll : Hid (∀ j (hj : j < rs.length), w8.cell? ⟨wr.heap.size, j, none⟩ = some (.bool true)) := hall
      have HB8 : Hid (Below w.heap.size w w8) := HB6.out.trans ((Below.trans B7.out hb8).mono hws)
      clear hM8 hb8 hall M7 B7 KR K0 K2 HB6 hmk
      go_wp2_with fail
      go_loop [13] (fun i => ∃ k : Nat, k ≤ rs.length ∧ i = .int .i64 k) (fun i => rs.length - (intOf i).toNat)
      case atStart => exact ⟨0, Nat.zero_le _, rfl⟩
      case round =>
        obtain ⟨j, hj, rfl⟩ := hrel
        by_cases hjl : j < rs.length
        · have hcj := HAll.out j hjl
          go_wp2
          go_round
          case rel => exact ⟨j + 1, by omega, by go_num⟩
          case measure => simp [intOf]; omega
        · go_wp2
          go_ret
          exact ⟨rfl, HB8.out⟩

end Go.Proofs.Qxb6626329a
