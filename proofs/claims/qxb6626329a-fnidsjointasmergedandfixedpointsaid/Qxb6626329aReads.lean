import Derived.Test.Qxb6626329aBase
namespace Go.Proofs.Qxb6626329a
open Go.RowKit

/-- it returns a bool -/
def RetB (e : Ending) : Prop := ∃ r : Bool, e = .returned (.bool r)
/-- it returns a bool; if false, n is at most 65536 -/
def RetBig (e : Ending) (n : Nat) : Prop := ∃ r : Bool, e = .returned (.bool r) ∧ (r = false → n ≤ 65536)

/-- a cell of a slice of strings that has an element there -/
theorem at_row {w : World} {p : Option Addr} {ss : List ByteArray} (h : ss = [] ∨ ∃ b off, p = some ⟨b, off, none⟩ ∧ SCells w b off ss) {k : Nat} (hk : k < ss.length) :
    ∃ b off, p = some ⟨b, off, none⟩ ∧ w.cell? ⟨b, off + k, none⟩ = some (.string ss[k]) := by
  rcases h with rfl | ⟨b, off, rfl, hc⟩
  · simp at hk
  · exact ⟨b, off, rfl, hc k hk⟩

set_option maxHeartbeats 400000 in
/-- zzIDsSize -/
theorem size_any (v : Value) (ss : List ByteArray) (acc : Int) (h0 : 0 ≤ acc) (h1 : acc ≤ 1048576) (w : World) (h : SS w v ss) :
    Calls Try.prog 15 #[v, .int .i64 acc] w fun e w' => ∃ n : Int, e = .returned (.int .i64 n) ∧ 0 ≤ n ∧ (n ≤ 1048576 → acc + 16 * (ss.length : Int) ≤ n) ∧ w' = w := by
  obtain ⟨p, cap, rfl, h⟩ := h
  have H : Hid _ := h
  clear h
  go_enter Try.func15, Try.ntmps15
  go_wp2
  go_loop [1, 5] (fun a i => ∃ (k : Nat) (z : Int), k ≤ ss.length ∧ i = .int .i64 k ∧ a = .int .i64 z ∧ acc + 16 * (k : Int) ≤ z ∧ z ≤ 1048576) (fun _ i => ss.length - (intOf i).toNat)
  case atStart => exact ⟨0, acc, Nat.zero_le _, rfl, rfl, by omega, h1⟩
  case round =>
    obtain ⟨k, z, hk, rfl, rfl, hz, hz1⟩ := hrel
    by_cases hlt : k < ss.length
    · obtain ⟨b, off, rfl, hc⟩ := at_row H.out hlt
      clear H
      by_cases hs : (ss[k].size : Int) ≤ 1048576
      · by_cases ht : z + (16 + (ss[k].size : Int)) ≤ 1048576
        · go_wp2
          go_round
          case rel => exact ⟨k + 1, _, by omega, by go_num, rfl, by omega, by omega⟩
          case measure => simp [intOf]; omega
        · go_wp2
          go_ret
          exact ⟨_, rfl, by omega, fun h => by omega, rfl⟩
      · go_wp2
        go_ret
        exact ⟨_, rfl, by omega, fun h => by omega, rfl⟩
    · go_wp2
      go_ret
      exact ⟨z, rfl, by omega, fun h => by omega, rfl⟩

set_option maxHeartbeats 4000000 in
/-- the bound on all lengths, laid by program: it returns, and leaves the world alone -/
theorem bytes5 (v0 v1 v2 v3 : Value) (s0 s1 s2 s3 : List ByteArray) (w : World) (h0 : SS w v0 s0) (h1 : SS w v1 s1) (h2 : SS w v2 s2) (h3 : SS w v3 s3) :
    Calls Try.prog 5 #[v0, v1, v2, v3] w fun e w' => RetB e ∧ w' = w := by
  obtain ⟨p0, c0, rfl, h0⟩ := h0
  obtain ⟨p1, c1, rfl, h1⟩ := h1
  obtain ⟨p2, c2, rfl, h2⟩ := h2
  obtain ⟨p3, c3, rfl, h3⟩ := h3
  have H0 : Hid _ := h0
  have H1 : Hid _ := h1
  have H2 : Hid _ := h2
  have H3 : Hid _ := h3
  clear h0 h1 h2 h3
  by_cases hb0 : (s0.length : Int) ≤ 1048576
  case neg =>
    go_enter Try.func5, Try.ntmps5
    go_wp2
    go_ret
    exact ⟨⟨_, rfl⟩, rfl⟩
  go_enter Try.func5, Try.ntmps5
  go_wp2
  go_loop [9, 10] (fun a i => ∃ (k : Nat) (z : Int), k ≤ s0.length ∧ i = .int .i64 k ∧ a = .int .i64 z ∧ 0 ≤ z ∧ z ≤ 1048576) (fun _ i => s0.length - (intOf i).toNat)
  case atStart => exact ⟨0, (s0.length : Int), Nat.zero_le _, rfl, rfl, by omega, by omega⟩
  case round =>
    obtain ⟨k0, z0, hk0, rfl, rfl, hz0, hy0⟩ := hrel
    by_cases hlt : k0 < s0.length
    · obtain ⟨b, off, rfl, hc⟩ := at_row H0.out hlt
      clear H0
      by_cases hs : (s0[k0].size : Int) ≤ 1048576
      · by_cases ht : z0 + (s0[k0].size : Int) ≤ 1048576
        · go_wp2
          go_round
          case rel => exact ⟨k0 + 1, _, by omega, by go_num, rfl, by omega, by omega⟩
          case measure => simp [intOf]; omega
        · go_wp2
          go_ret
          exact ⟨⟨_, rfl⟩, rfl⟩
      · go_wp2
        go_ret
        exact ⟨⟨_, rfl⟩, rfl⟩
    · by_cases hb1 : (s1.length : Int) ≤ 1048576
      case neg =>
        go_wp2
        go_ret
        exact ⟨⟨_, rfl⟩, rfl⟩
      by_cases ht1 : z0 + (s1.length : Int) ≤ 1048576
      case neg =>
        go_wp2
        go_ret
        exact ⟨⟨_, rfl⟩, rfl⟩
      go_wp2
      go_loop [9, 11] (fun a i => ∃ (k : Nat) (z : Int), k ≤ s1.length ∧ i = .int .i64 k ∧ a = .int .i64 z ∧ 0 ≤ z ∧ z ≤ 1048576) (fun _ i => s1.length - (intOf i).toNat)
      case atStart => exact ⟨0, z0 + (s1.length : Int), Nat.zero_le _, rfl, rfl, by omega, by omega⟩
      case round =>
        obtain ⟨k1, z1, hk1, rfl, rfl, hz1, hy1⟩ := hrel
        by_cases hlt : k1 < s1.length
        · obtain ⟨b, off, rfl, hc⟩ := at_row H1.out hlt
          clear H1
          by_cases hs : (s1[k1].size : Int) ≤ 1048576
          · by_cases ht : z1 + (s1[k1].size : Int) ≤ 1048576
            · go_wp2
              go_round
              case rel => exact ⟨k1 + 1, _, by omega, by go_num, rfl, by omega, by omega⟩
              case measure => simp [intOf]; omega
            · go_wp2
              go_ret
              exact ⟨⟨_, rfl⟩, rfl⟩
          · go_wp2
            go_ret
            exact ⟨⟨_, rfl⟩, rfl⟩
        · by_cases hb2 : (s2.length : Int) ≤ 1048576
          case neg =>
            go_wp2
            go_ret
            exact ⟨⟨_, rfl⟩, rfl⟩
          by_cases ht2 : z1 + (s2.length : Int) ≤ 1048576
          case neg =>
            go_wp2
            go_ret
            exact ⟨⟨_, rfl⟩, rfl⟩
          go_wp2
          go_loop [9, 12] (fun a i => ∃ (k : Nat) (z : Int), k ≤ s2.length ∧ i = .int .i64 k ∧ a = .int .i64 z ∧ 0 ≤ z ∧ z ≤ 1048576) (fun _ i => s2.length - (intOf i).toNat)
          case atStart => exact ⟨0, z1 + (s2.length : Int), Nat.zero_le _, rfl, rfl, by omega, by omega⟩
          case round =>
            obtain ⟨k2, z2, hk2, rfl, rfl, hz2, hy2⟩ := hrel
            by_cases hlt : k2 < s2.length
            · obtain ⟨b, off, rfl, hc⟩ := at_row H2.out hlt
              clear H2
              by_cases hs : (s2[k2].size : Int) ≤ 1048576
              · by_cases ht : z2 + (s2[k2].size : Int) ≤ 1048576
                · go_wp2
                  go_round
                  case rel => exact ⟨k2 + 1, _, by omega, by go_num, rfl, by omega, by omega⟩
                  case measure => simp [intOf]; omega
                · go_wp2
                  go_ret
                  exact ⟨⟨_, rfl⟩, rfl⟩
              · go_wp2
                go_ret
                exact ⟨⟨_, rfl⟩, rfl⟩
            · by_cases hb3 : (s3.length : Int) ≤ 1048576
              case neg =>
                go_wp2
                go_ret
                exact ⟨⟨_, rfl⟩, rfl⟩
              by_cases ht3 : z2 + (s3.length : Int) ≤ 1048576
              case neg =>
                go_wp2
                go_ret
                exact ⟨⟨_, rfl⟩, rfl⟩
              go_wp2
              go_loop [9, 13] (fun a i => ∃ (k : Nat) (z : Int), k ≤ s3.length ∧ i = .int .i64 k ∧ a = .int .i64 z ∧ 0 ≤ z ∧ z ≤ 1048576) (fun _ i => s3.length - (intOf i).toNat)
              case atStart => exact ⟨0, z2 + (s3.length : Int), Nat.zero_le _, rfl, rfl, by omega, by omega⟩
              case round =>
                obtain ⟨k3, z3, hk3, rfl, rfl, hz3, hy3⟩ := hrel
                by_cases hlt : k3 < s3.length
                · obtain ⟨b, off, rfl, hc⟩ := at_row H3.out hlt
                  clear H3
                  by_cases hs : (s3[k3].size : Int) ≤ 1048576
                  · by_cases ht : z3 + (s3[k3].size : Int) ≤ 1048576
                    · go_wp2
                      go_round
                      case rel => exact ⟨k3 + 1, _, by omega, by go_num, rfl, by omega, by omega⟩
                      case measure => simp [intOf]; omega
                    · go_wp2
                      go_ret
                      exact ⟨⟨_, rfl⟩, rfl⟩
                  · go_wp2
                    go_ret
                    exact ⟨⟨_, rfl⟩, rfl⟩
                · go_wp2
                  go_ret
                  exact ⟨⟨_, rfl⟩, rfl⟩

set_option maxHeartbeats 4000000 in
/-- the bound on all lengths, laid by program: it returns, and leaves the world alone -/
theorem bytes10 (v0 v1 v2 v3 : Value) (s0 s1 s2 s3 : List ByteArray) (w : World) (h0 : SS w v0 s0) (h1 : SS w v1 s1) (h2 : SS w v2 s2) (h3 : SS w v3 s3) :
    Calls Try.prog 10 #[v0, v1, v2, v3] w fun e w' => RetB e ∧ w' = w := by
  obtain ⟨p0, c0, rfl, h0⟩ := h0
  obtain ⟨p1, c1, rfl, h1⟩ := h1
  obtain ⟨p2, c2, rfl, h2⟩ := h2
  obtain ⟨p3, c3, rfl, h3⟩ := h3
  have H0 : Hid _ := h0
  have H1 : Hid _ := h1
  have H2 : Hid _ := h2
  have H3 : Hid _ := h3
  clear h0 h1 h2 h3
  by_cases hb0 : (s0.length : Int) ≤ 1048576
  case neg =>
    go_enter Try.func10, Try.ntmps10
    go_wp2
    go_ret
    exact ⟨⟨_, rfl⟩, rfl⟩
  go_enter Try.func10, Try.ntmps10
  go_wp2
  go_loop [9, 10] (fun a i => ∃ (k : Nat) (z : Int), k ≤ s0.length ∧ i = .int .i64 k ∧ a = .int .i64 z ∧ 0 ≤ z ∧ z ≤ 1048576) (fun _ i => s0.length - (intOf i).toNat)
  case atStart => exact ⟨0, (s0.length : Int), Nat.zero_le _, rfl, rfl, by omega, by omega⟩
  case round =>
    obtain ⟨k0, z0, hk0, rfl, rfl, hz0, hy0⟩ := hrel
    by_cases hlt : k0 < s0.length
    · obtain ⟨b, off, rfl, hc⟩ := at_row H0.out hlt
      clear H0
      by_cases hs : (s0[k0].size : Int) ≤ 1048576
      · by_cases ht : z0 + (s0[k0].size : Int) ≤ 1048576
        · go_wp2
          go_round
          case rel => exact ⟨k0 + 1, _, by omega, by go_num, rfl, by omega, by omega⟩
          case measure => simp [intOf]; omega
        · go_wp2
          go_ret
          exact ⟨⟨_, rfl⟩, rfl⟩
      · go_wp2
        go_ret
        exact ⟨⟨_, rfl⟩, rfl⟩
    · by_cases hb1 : (s1.length : Int) ≤ 1048576
      case neg =>
        go_wp2
        go_ret
        exact ⟨⟨_, rfl⟩, rfl⟩
      by_cases ht1 : z0 + (s1.length : Int) ≤ 1048576
      case neg =>
        go_wp2
        go_ret
        exact ⟨⟨_, rfl⟩, rfl⟩
      go_wp2
      go_loop [9, 11] (fun a i => ∃ (k : Nat) (z : Int), k ≤ s1.length ∧ i = .int .i64 k ∧ a = .int .i64 z ∧ 0 ≤ z ∧ z ≤ 1048576) (fun _ i => s1.length - (intOf i).toNat)
      case atStart => exact ⟨0, z0 + (s1.length : Int), Nat.zero_le _, rfl, rfl, by omega, by omega⟩
      case round =>
        obtain ⟨k1, z1, hk1, rfl, rfl, hz1, hy1⟩ := hrel
        by_cases hlt : k1 < s1.length
        · obtain ⟨b, off, rfl, hc⟩ := at_row H1.out hlt
          clear H1
          by_cases hs : (s1[k1].size : Int) ≤ 1048576
          · by_cases ht : z1 + (s1[k1].size : Int) ≤ 1048576
            · go_wp2
              go_round
              case rel => exact ⟨k1 + 1, _, by omega, by go_num, rfl, by omega, by omega⟩
              case measure => simp [intOf]; omega
            · go_wp2
              go_ret
              exact ⟨⟨_, rfl⟩, rfl⟩
          · go_wp2
            go_ret
            exact ⟨⟨_, rfl⟩, rfl⟩
        · by_cases hb2 : (s2.length : Int) ≤ 1048576
          case neg =>
            go_wp2
            go_ret
            exact ⟨⟨_, rfl⟩, rfl⟩
          by_cases ht2 : z1 + (s2.length : Int) ≤ 1048576
          case neg =>
            go_wp2
            go_ret
            exact ⟨⟨_, rfl⟩, rfl⟩
          go_wp2
          go_loop [9, 12] (fun a i => ∃ (k : Nat) (z : Int), k ≤ s2.length ∧ i = .int .i64 k ∧ a = .int .i64 z ∧ 0 ≤ z ∧ z ≤ 1048576) (fun _ i => s2.length - (intOf i).toNat)
          case atStart => exact ⟨0, z1 + (s2.length : Int), Nat.zero_le _, rfl, rfl, by omega, by omega⟩
          case round =>
            obtain ⟨k2, z2, hk2, rfl, rfl, hz2, hy2⟩ := hrel
            by_cases hlt : k2 < s2.length
            · obtain ⟨b, off, rfl, hc⟩ := at_row H2.out hlt
              clear H2
              by_cases hs : (s2[k2].size : Int) ≤ 1048576
              · by_cases ht : z2 + (s2[k2].size : Int) ≤ 1048576
                · go_wp2
                  go_round
                  case rel => exact ⟨k2 + 1, _, by omega, by go_num, rfl, by omega, by omega⟩
                  case measure => simp [intOf]; omega
                · go_wp2
                  go_ret
                  exact ⟨⟨_, rfl⟩, rfl⟩
              · go_wp2
                go_ret
                exact ⟨⟨_, rfl⟩, rfl⟩
            · by_cases hb3 : (s3.length : Int) ≤ 1048576
              case neg =>
                go_wp2
                go_ret
                exact ⟨⟨_, rfl⟩, rfl⟩
              by_cases ht3 : z2 + (s3.length : Int) ≤ 1048576
              case neg =>
                go_wp2
                go_ret
                exact ⟨⟨_, rfl⟩, rfl⟩
              go_wp2
              go_loop [9, 13] (fun a i => ∃ (k : Nat) (z : Int), k ≤ s3.length ∧ i = .int .i64 k ∧ a = .int .i64 z ∧ 0 ≤ z ∧ z ≤ 1048576) (fun _ i => s3.length - (intOf i).toNat)
              case atStart => exact ⟨0, z2 + (s3.length : Int), Nat.zero_le _, rfl, rfl, by omega, by omega⟩
              case round =>
                obtain ⟨k3, z3, hk3, rfl, rfl, hz3, hy3⟩ := hrel
                by_cases hlt : k3 < s3.length
                · obtain ⟨b, off, rfl, hc⟩ := at_row H3.out hlt
                  clear H3
                  by_cases hs : (s3[k3].size : Int) ≤ 1048576
                  · by_cases ht : z3 + (s3[k3].size : Int) ≤ 1048576
                    · go_wp2
                      go_round
                      case rel => exact ⟨k3 + 1, _, by omega, by go_num, rfl, by omega, by omega⟩
                      case measure => simp [intOf]; omega
                    · go_wp2
                      go_ret
                      exact ⟨⟨_, rfl⟩, rfl⟩
                  · go_wp2
                    go_ret
                    exact ⟨⟨_, rfl⟩, rfl⟩
                · go_wp2
                  go_ret
                  exact ⟨⟨_, rfl⟩, rfl⟩

set_option maxHeartbeats 400000 in
/-- zzIDsTooBig -/
theorem tooBig_any (v0 v1 v2 v3 : Value) (s0 s1 s2 s3 : List ByteArray) (w : World) (h0 : SS w v0 s0) (h1 : SS w v1 s1) (h2 : SS w v2 s2) (h3 : SS w v3 s3) :
    Calls Try.prog 6 #[v0, v1, v2, v3] w fun e w' => RetBig e (s0.length + s1.length + s2.length + s3.length) ∧ w' = w := by
  have H0 : Hid _ := h0
  have H1 : Hid _ := h1
  have H2 : Hid _ := h2
  have H3 : Hid _ := h3
  clear h0 h1 h2 h3
  go_enter Try.func6, Try.ntmps6
  go_wp2_with fail
  refine (size_any v0 s0 0 (by omega) (by omega) _ H0.out).mono ?_
  rintro e w' ⟨n0, rfl, a0, b0, rfl⟩
  by_cases t0 : n0 ≤ 1048576
  case neg =>
    clear b0
    go_wp2
    go_ret
    exact ⟨⟨_, rfl, fun h => by cases h⟩, rfl⟩
  have b0' := b0 t0
  clear b0
  go_wp2_with fail
  refine (size_any v1 s1 n0 a0 t0 _ H1.out).mono ?_
  rintro e w' ⟨n1, rfl, a1, b1, rfl⟩
  by_cases t1 : n1 ≤ 1048576
  case neg =>
    clear b1
    go_wp2
    go_ret
    exact ⟨⟨_, rfl, fun h => by cases h⟩, rfl⟩
  have b1' := b1 t1
  clear b1
  go_wp2_with fail
  refine (size_any v2 s2 n1 a1 t1 _ H2.out).mono ?_
  rintro e w' ⟨n2, rfl, a2, b2, rfl⟩
  by_cases t2 : n2 ≤ 1048576
  case neg =>
    clear b2
    go_wp2
    go_ret
    exact ⟨⟨_, rfl, fun h => by cases h⟩, rfl⟩
  have b2' := b2 t2
  clear b2
  go_wp2_with fail
  refine (size_any v3 s3 n2 a2 t2 _ H3.out).mono ?_
  rintro e w' ⟨n3, rfl, a3, b3, rfl⟩
  have B3 : Hid _ := b3
  clear b3
  go_wp2
  go_ret
  refine ⟨⟨_, rfl, fun h => ?_⟩, rfl⟩
  have hn : n3 ≤ 1048576 := by simpa using h
  have := B3.out hn
  omega

end Go.Proofs.Qxb6626329a
