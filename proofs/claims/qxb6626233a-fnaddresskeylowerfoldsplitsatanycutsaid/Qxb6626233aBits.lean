import Derived.Test.Qxb6626233aPlain
import Derived.WalkKit
namespace Go.Proofs.Qxb6626233a

/-- ASCII lower case of a byte's number. -/
def lowI (n : Int) : Int := if 65 ≤ n ∧ n ≤ 90 then n + 32 else n

theorem u8_wrap (n : Nat) (h : n < 256) : IntKind.u8.wrap (n : Int) = n := by
  simp [IntKind.wrap, IntKind.signed, IntKind.bits]; omega

theorem bits_xor_nat (x y : Nat) (hx : x < 256) (hy : y < 256) : bits .xor .u8 (x : Int) (y : Int) = ((x ^^^ y : Nat) : Int) := by
  show IntKind.u8.wrap (((BitVec.ofInt 8 (x : Int) ^^^ BitVec.ofInt 8 (y : Int)).toNat : Nat) : Int) = _
  rw [BitVec.ofInt_natCast, BitVec.ofInt_natCast, BitVec.toNat_xor, BitVec.toNat_ofNat, BitVec.toNat_ofNat, Nat.mod_eq_of_lt (by omega), Nat.mod_eq_of_lt (by omega)]
  exact u8_wrap _ (Nat.xor_lt_two_pow (n := 8) hx hy)

theorem bits_or_nat (x y : Nat) (hx : x < 256) (hy : y < 256) : bits .or .u8 (x : Int) (y : Int) = ((x ||| y : Nat) : Int) := by
  show IntKind.u8.wrap (((BitVec.ofInt 8 (x : Int) ||| BitVec.ofInt 8 (y : Int)).toNat : Nat) : Int) = _
  rw [BitVec.ofInt_natCast, BitVec.ofInt_natCast, BitVec.toNat_or, BitVec.toNat_ofNat, BitVec.toNat_ofNat, Nat.mod_eq_of_lt (by omega), Nat.mod_eq_of_lt (by omega)]
  exact u8_wrap _ (Nat.or_lt_two_pow (n := 8) hx hy)

theorem or32 : ∀ x : Fin 256, (97 ≤ x.val ||| 32 ∧ x.val ||| 32 ≤ 122) ↔ ((65 ≤ x.val ∧ x.val ≤ 90) ∨ (97 ≤ x.val ∧ x.val ≤ 122)) := by decide +kernel
theorem xor32_up : ∀ x : Fin 256, 65 ≤ x.val → x.val ≤ 90 → x.val ^^^ 32 = x.val + 32 := by decide +kernel
theorem xor32_low : ∀ x : Fin 256, 97 ≤ x.val → x.val ≤ 122 → x.val ^^^ 32 = x.val - 32 := by decide +kernel

theorem xor_back (x y : Nat) (h : x ^^^ y = 32) : y = x ^^^ 32 := by
  rw [← h, ← Nat.xor_assoc, Nat.xor_self, Nat.zero_xor]

/-- the case-bit rule on two bytes -/
def caseBit (x y : Int) : Bool := (x == y) || ((bits .xor .u8 x y == 32) && decide (97 ≤ bits .or .u8 x 32) && decide (bits .or .u8 x 32 ≤ 122))

theorem caseBit_nat (x y : Nat) (hx : x < 256) (hy : y < 256) : caseBit (x : Int) (y : Int) = true ↔ lowI x = lowI y := by
  have h1 := or32 ⟨x, hx⟩
  have h2 := xor32_up ⟨x, hx⟩
  have h3 := xor32_low ⟨x, hx⟩
  simp only at h1 h2 h3
  have e : bits .or .u8 (x : Int) 32 = ((x ||| 32 : Nat) : Int) := bits_or_nat x 32 hx (by omega)
  have hc : caseBit (x : Int) (y : Int) = true ↔ (x = y ∨ (x ^^^ y = 32 ∧ 97 ≤ x ||| 32 ∧ x ||| 32 ≤ 122)) := by
    unfold caseBit
    rw [bits_xor_nat x y hx hy, e]
    simp only [Bool.or_eq_true, Bool.and_eq_true, beq_iff_eq, decide_eq_true_eq]
    omega
  rw [hc, h1]
  constructor
  · rintro (rfl | ⟨hxor, hl⟩)
    · rfl
    · have hb := xor_back x y hxor
      unfold lowI
      rcases hl with hl | hl
      · rw [h2 hl.1 hl.2] at hb
        rw [if_pos (by omega), if_neg (by omega)]; omega
      · rw [h3 hl.1 hl.2] at hb
        rw [if_neg (by omega), if_pos (by omega)]; omega
  · intro h
    by_cases hxy : x = y
    · exact Or.inl hxy
    · right
      have hl : (65 ≤ x ∧ x ≤ 90 ∧ y = x + 32) ∨ (97 ≤ x ∧ x ≤ 122 ∧ y = x - 32) := by
        unfold lowI at h
        split at h <;> split at h <;> omega
      rcases hl with ⟨a, b, hy'⟩ | ⟨a, b, hy'⟩
      · refine ⟨?_, Or.inl ⟨a, b⟩⟩
        rw [hy', ← h2 a b, ← Nat.xor_assoc, Nat.xor_self, Nat.zero_xor]
      · refine ⟨?_, Or.inr ⟨a, b⟩⟩
        rw [hy', ← h3 a b, ← Nat.xor_assoc, Nat.xor_self, Nat.zero_xor]

theorem lowI_byte (c : UInt8) : lowI (c.toNat : Int) = ((Plain.lowB c).toNat : Int) := by
  unfold lowI
  by_cases h : 65 ≤ c.toNat ∧ c.toNat ≤ 90
  · rw [if_pos (by omega), Plain.lowB_up h.1 h.2]; omega
  · rw [if_neg (by omega), Plain.lowB_not h]

theorem caseBit_low (x y : UInt8) : caseBit (x.toNat : Int) (y.toNat : Int) = true ↔ Plain.lowB x = Plain.lowB y := by
  rw [caseBit_nat x.toNat y.toNat x.toNat_lt y.toNat_lt, lowI_byte, lowI_byte]
  constructor
  · intro h; exact UInt8.toNat_inj.1 (by omega)
  · intro h; rw [h]

/-- the lowered byte and the byte are one letter -/
theorem caseBit_lowB (x : UInt8) : caseBit ((Plain.lowB x).toNat : Int) (x.toNat : Int) = true :=
  (caseBit_low _ _).2 (Plain.lowB_twice x)

theorem cb_eq {x y : Int} (h : (x == y) = true) : caseBit x y = true := by unfold caseBit; rw [h]; rfl
theorem cb_xor {x y : Int} (h : (x == y) = false) (h2 : (bits .xor .u8 x y != 32) = true) : caseBit x y = false := by
  unfold caseBit; rw [h]; simp only [bne_iff_ne, ne_eq] at h2; simp [h2]
theorem cb_rest {x y : Int} (h : (x == y) = false) (h2 : (bits .xor .u8 x y != 32) = false) : caseBit x y = (decide (97 ≤ bits .or .u8 x 32) && decide (bits .or .u8 x 32 ≤ 122)) := by
  have e : (bits .xor .u8 x y == 32) = true := by simpa using h2
  unfold caseBit; rw [h, e]; simp

end Go.Proofs.Qxb6626233a
