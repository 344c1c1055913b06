import Derived.Test.Qxb6626329aFnIDsSortedUniqueUnionWalk
namespace Go.Proofs.Qxb6626329a
open Go.RowKit

/-- Configuration.IDs, of one without old members -/
theorem ids_one (p : Option Addr) (c : Nat) (ms : List (ByteArray × ByteArray)) (hn : ms.length ≤ 4194304) (w : World) (hm : MS w (.slice p ms.length c) ms) :
    Calls Try.prog 8 #[.agg #[.slice p ms.length c, .slice none 0 0]] w fun e w' => ∃ v, e = .returned v ∧ SS w' v ((Plain.idsL (ms.map fun m => m.1.data.toList)).map mkB) ∧ Below w.heap.size w w' := by
  have := ids_any p none c 0 ms [] (by simpa using hn) w hm ⟨none, 0, rfl, Or.inl rfl⟩
  rw [List.append_nil] at this
  exact this

theorem rs_again (s0 s2 : List ByteArray) : (Plain.idsL (((rsOf s0 s2).map fun s => (s, ByteArray.empty)).map fun m => m.1.data.toList)).map mkB = rsOf s0 s2 := by
  have e : ((rsOf s0 s2).map fun s => (s, ByteArray.empty)).map (fun m => m.1.data.toList) = Plain.idsL ((s0 ++ s2).map fun s => s.data.toList) := by
    unfold rsOf
    rw [List.map_map, List.map_map]
    have : ((fun m : ByteArray × ByteArray => m.1.data.toList) ∘ (fun s : ByteArray => (s, ByteArray.empty))) ∘ mkB = id := by
      funext l; rfl
    rw [this, List.map_id]
  rw [e, Plain.idsL_twice]
  rfl

set_option maxHeartbeats 2000000 in
theorem law4_walk (p0 p1 p2 p3 : Option Addr) (c0 c1 c2 c3 : Nat) (s0 s1 s2 s3 : List ByteArray) (w : World)
    (h0 : SS w (.slice p0 s0.length c0) s0) (h1 : SS w (.slice p1 s1.length c1) s1) (h2 : SS w (.slice p2 s2.length c2) s2) (h3 : SS w (.slice p3 s3.length c3) s3) :
    Calls Try.prog 4 #[.slice p0 s0.length c0, .slice p1 s1.length c1, .slice p2 s2.length c2, .slice p3 s3.length c3] w fun e w' => e = .returned (.bool true) ∧ Below w.heap.size w w' := by
  have H0 : Hid (SS w (.slice p0 s0.length c0) s0) := h0
  have H1 : Hid (SS w (.slice p1 s1.length c1) s1) := h1
  have H2 : Hid (SS w (.slice p2 s2.length c2) s2) := h2
  have H3 : Hid (SS w (.slice p3 s3.length c3) s3) := h3
  obtain ⟨zm, ezm⟩ : ∃ z, z = s0.zip s1 := ⟨_, rfl⟩
  obtain ⟨zo, ezo⟩ : ∃ z, z = s2.zip s3 := ⟨_, rfl⟩
  have EM : Hid (zm = s0.zip s1) := ezm
  have EO : Hid (zo = s2.zip s3) := ezo
  clear h0 h1 h2 h3 ezm ezo
  go_enter Try.func4, Try.ntmps4
  go_wp2_with fail
  refine (bytes10 _ _ _ _ s0 s1 s2 s3 w H0.out H1.out H2.out H3.out).mono ?_
  rintro e wA ⟨⟨r, rfl⟩, hw⟩
  have hw' := hw.symm
  subst hw'
  clear hw
  cases r
  case false =>
    go_wp2
    go_ret
    exact ⟨rfl, Below.refl _ _⟩
  go_wp2_with fail
  refine (tooBig_any _ _ _ _ s0 s1 s2 s3 _ H0.out H1.out H2.out H3.out).mono ?_
  rintro e wA ⟨⟨r, rfl, hbig⟩, hw⟩
  have hw' := hw.symm
  subst hw'
  clear hw
  cases r
  case true =>
    clear hbig
    go_wp2
    go_ret
    exact ⟨rfl, Below.refl _ _⟩
  have hb := hbig rfl
  clear hbig
  by_cases e1 : s1.length = s0.length
  case neg =>
    have t1 : ((s1.length : Int) != (s0.length : Int)) = true := by simp; omega
    go_wp2
    go_ret
    exact ⟨rfl, Below.refl _ _⟩
  by_cases e3 : s3.length = s2.length
  case neg =>
    have t1 : ((s1.length : Int) != (s0.length : Int)) = false := by simp; omega
    have t3 : ((s3.length : Int) != (s2.length : Int)) = true := by simp; omega
    clear e1
    go_wp2
    go_ret
    exact ⟨rfl, Below.refl _ _⟩
  have t1 : ((s1.length : Int) != (s0.length : Int)) = false := by simp; omega
  have t3 : ((s3.length : Int) != (s2.length : Int)) = false := by simp; omega
  have E1 : Hid (s1.length = s0.length) := e1
  have E3 : Hid (s3.length = s2.length) := e3
  clear e1 e3
  go_wp2_with fail
  refine (members_any _ _ s0 s1 E1.out (by omega) w H0.out H1.out).mono ?_
  rintro e w1 ⟨vm, rfl, hm, hb1⟩
  rw [← EM.out] at hm
  have H2' : Hid (SS w1 (.slice p2 s2.length c2) s2) := H2.out.below hb1 (Nat.le_refl _)
  have H3' : Hid (SS w1 (.slice p3 s3.length c3) s3) := H3.out.below hb1 (Nat.le_refl _)
  obtain ⟨pm, cm, rfl, hmc⟩ := hm
  have HM : Hid (MS w1 (.slice pm zm.length cm) zm) := ⟨pm, cm, rfl, hmc⟩
  have HB1 : Hid (Below w.heap.size w w1) := hb1
  clear hmc hb1
  go_wp2_with fail
  refine (members_any _ _ s2 s3 E3.out (by omega) w1 H2'.out H3'.out).mono ?_
  rintro e w2 ⟨vo, rfl, ho, hb2⟩
  rw [← EO.out] at ho
  have HM2 : Hid (MS w2 (.slice pm zm.length cm) zm) := HM.out.below hb2 (Nat.le_refl _)
  have HB2 : Hid (Below w.heap.size w w2) := HB1.out.trans (hb2.mono HB1.out.size)
  obtain ⟨po, co, rfl, hoc⟩ := ho
  have HO : Hid (MS w2 (.slice po zo.length co) zo) := ⟨po, co, rfl, hoc⟩
  clear hoc hb2 HM H2' H3' HB1
  have b3 : Below w2.heap.size w2 (w2.alloc (.cells #[.slice pm zm.length cm, .slice po zo.length co] 27)) := (Below.refl _ _).alloc (Nat.le_refl _) _
  have HM3 : Hid _ := HM2.out.below b3 (Nat.le_refl _)
  have HO3 : Hid _ := HO.out.below b3 (Nat.le_refl _)
  have HB3 : Hid _ := HB2.out.trans (b3.mono HB2.out.size)
  clear b3
  have hzl : zm.length + zo.length ≤ 131072 := by rw [EM.out, EO.out, List.length_zip, List.length_zip]; omega
  go_wp2_with fail
  refine (ids_any pm po cm co zm zo (by omega) _ HM3.out HO3.out).mono ?_
  rintro e w4 ⟨vr, rfl, hr, hb4⟩
  have hrz : (Plain.idsL ((zm ++ zo).map fun m => m.1.data.toList)).map mkB = rsOf s0 s2 := by rw [EM.out, EO.out]; exact rs_zip s0 s1 s2 s3 E1.out E3.out
  rw [hrz] at hr
  obtain ⟨rs, ers⟩ : ∃ rs, rs = rsOf s0 s2 := ⟨_, rfl⟩
  rw [← ers] at hr
  have HR4 : Hid (SS w4 vr rs) := hr
  have ERS : Hid (rs = rsOf s0 s2) := ers
  have HRZ : Hid _ := hrz
  have HB4 : Hid (Below w.heap.size w w4) := HB3.out.trans (hb4.mono HB3.out.size)
  have hb24 : Below w2.heap.size w2 w4 := ((Below.refl _ _).alloc (Nat.le_refl _) _).trans (hb4.mono (by simp))
  have HM4 : Hid (MS w4 (.slice pm zm.length cm) zm) := HM2.out.below hb24 (Nat.le_refl _)
  have HO4 : Hid (MS w4 (.slice po zo.length co) zo) := HO.out.below hb24 (Nat.le_refl _)
  have hrl : rs.length ≤ 65536 := by rw [ers]; have := len_rsOf s0 s2; omega
  have HI : Hid (Inc rs) := by rw [ers]; exact inc_rsOf s0 s2
  have HMem : Hid (∀ x, x ∈ rs ↔ x ∈ s0 ++ s2) := by rw [ers]; exact mem_rsOf s0 s2
  clear hrz ers hr hb4 hb24 HM3 HO3 HB3 HM2 HO HB2
  go_wp2_with fail
  refine (concat_any _ _ zm zo (by omega) w4 HM4.out HO4.out).mono ?_
  rintro e w5 ⟨vc, rfl, hc, hb5⟩
  obtain ⟨zc, ezc⟩ : ∃ z, z = zm ++ zo := ⟨_, rfl⟩
  rw [← ezc] at hc
  have EC : Hid (zc = zm ++ zo) := ezc
  have hzc : zc.length ≤ 131072 := by rw [ezc, List.length_append]; exact hzl
  obtain ⟨pc, cc, rfl, hcc⟩ := hc
  have HC5 : Hid (MS w5 (.slice pc zc.length cc) zc) := ⟨pc, cc, rfl, hcc⟩
  have HR5 : Hid (SS w5 vr rs) := HR4.out.below hb5 (Nat.le_refl _)
  have HB5 : Hid (Below w.heap.size w w5) := HB4.out.trans (hb5.mono HB4.out.size)
  clear ezc hcc hb5 HM4 HO4 HR4 HB4
  have b6 : Below w5.heap.size w5 (w5.alloc (.cells #[.slice pc zc.length cc, .slice none 0 0] 27)) := (Below.refl _ _).alloc (Nat.le_refl _) _
  have HC6 : Hid _ := HC5.out.below b6 (Nat.le_refl _)
  have HR6 : Hid _ := HR5.out.below b6 (Nat.le_refl _)
  have HB6 : Hid _ := HB5.out.trans (b6.mono HB5.out.size)
  clear b6
  go_wp2_with fail
  refine (ids_one pc cc zc (by omega) _ HC6.out).mono ?_
  rintro e w7 ⟨vr3, rfl, hr3, hb7⟩
  rw [EC.out, HRZ.out, ← ERS.out] at hr3
  have HR7 : Hid (SS w7 vr rs) := SS.below HR6.out hb7 (Nat.le_refl _)
  have HT7 : Hid (SS w7 vr3 rs) := hr3
  have HB7 : Hid (Below w.heap.size w w7) := Below.trans HB6.out (hb7.mono (Below.size HB6.out))
  clear hr3 hb7 HC6 HR6 HB6 HC5 HR5 HB5
  go_wp2_with fail
  refine (asMembers_any vr rs (by omega) w7 HR7.out).mono ?_
  rintro e w8 ⟨va, rfl, ha, hb8⟩
  obtain ⟨za, eza⟩ : ∃ z, z = rs.map fun s => (s, ByteArray.empty) := ⟨_, rfl⟩
  rw [← eza] at ha
  have EA : Hid (za = rs.map fun s => (s, ByteArray.empty)) := eza
  have hza : za.length ≤ 65536 := by rw [eza, List.length_map]; exact hrl
  obtain ⟨pa, ca, rfl, hac⟩ := ha
  have HA8 : Hid (MS w8 (.slice pa za.length ca) za) := ⟨pa, ca, rfl, hac⟩
  have HR8 : Hid (SS w8 vr rs) := HR7.out.below hb8 (Nat.le_refl _)
  have HT8 : Hid (SS w8 vr3 rs) := HT7.out.below hb8 (Nat.le_refl _)
  have HB8 : Hid (Below w.heap.size w w8) := HB7.out.trans (hb8.mono HB7.out.size)
  clear eza hac hb8 HR7 HT7 HB7
  have b9 : Below w8.heap.size w8 (w8.alloc (.cells #[.slice pa za.length ca, .slice none 0 0] 27)) := (Below.refl _ _).alloc (Nat.le_refl _) _
  have HA9 : Hid _ := HA8.out.below b9 (Nat.le_refl _)
  have HR9 : Hid _ := HR8.out.below b9 (Nat.le_refl _)
  have HT9 : Hid _ := HT8.out.below b9 (Nat.le_refl _)
  have HB9 : Hid _ := HB8.out.trans (b9.mono HB8.out.size)
  clear b9
  go_wp2_with fail
  refine (ids_one pa ca za (by omega) _ HA9.out).mono ?_
  rintro e w10 ⟨vr4, rfl, hr4, hb10⟩
  rw [EA.out, ERS.out, rs_again, ← ERS.out] at hr4
  have HR10 : Hid (SS w10 vr rs) := SS.below HR9.out hb10 (Nat.le_refl _)
  have HT10 : Hid (SS w10 vr3 rs) := SS.below HT9.out hb10 (Nat.le_refl _)
  have HU10 : Hid (SS w10 vr4 rs) := hr4
  have HB10 : Hid (Below w.heap.size w w10) := Below.trans HB9.out (hb10.mono (Below.size HB9.out))
  have A0 : Hid (∀ x ∈ s0, x ∈ rs) := fun x hx => (HMem.out x).2 (List.mem_append_left _ hx)
  have A2 : Hid (∀ x ∈ s2, x ∈ rs) := fun x hx => (HMem.out x).2 (List.mem_append_right _ hx)
  clear hr4 hb10 HA9 HR9 HT9 HB9 HA8 HR8 HT8 HB8
  go_wp2_with fail
  refine (equal_any vr vr3 rs (by omega) w10 HR10.out HT10.out).mono ?_
  rintro e w11 ⟨rfl, hw11⟩
  have HR11 : Hid (SS w11 vr rs) := by obtain ⟨n, rfl⟩ := hw11; exact HR10.out
  have HU11 : Hid (SS w11 vr4 rs) := by obtain ⟨n, rfl⟩ := hw11; exact HU10.out
  have HB11 : Hid (Below w.heap.size w w11) := by obtain ⟨n, rfl⟩ := hw11; exact below_drewN HB10.out n
  clear hw11 HR10 HT10 HU10 HB10
  go_wp2_with fail
  refine (equal_any vr vr4 rs (by omega) w11 HR11.out HU11.out).mono ?_
  rintro e w12 ⟨rfl, hw12⟩
  have HR12 : Hid (SS w12 vr rs) := by obtain ⟨n, rfl⟩ := hw12; exact HR11.out
  have HB12 : Hid (Below w.heap.size w w12) := by obtain ⟨n, rfl⟩ := hw12; exact below_drewN HB11.out n
  clear hw12 HR11 HU11 HB11
  go_wp2_with fail
  refine (allFound_any vr _ rs s0 (by omega) (by omega) HI.out A0.out w12 HR12.out (H0.out.below HB12.out (Nat.le_refl _))).mono ?_
  rintro e w13 ⟨rfl, hw13⟩
  have hw' := hw13.symm
  subst hw'
  clear hw13
  go_wp2_with fail
  refine (allFound_any vr _ rs s2 (by omega) (by omega) HI.out A2.out w12 HR12.out (H2.out.below HB12.out (Nat.le_refl _))).mono ?_
  rintro e w14 ⟨rfl, hw14⟩
  have hw' := hw14.symm
  subst hw'
  clear hw14
  go_wp2
  go_ret
  exact ⟨rfl, HB12.out⟩

end Go.Proofs.Qxb6626329a
