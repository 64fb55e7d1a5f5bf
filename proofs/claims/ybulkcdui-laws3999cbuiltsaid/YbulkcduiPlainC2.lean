/- The eight-digit words: bit tricks as plain arithmetic. No walk. -/
import Derived.Test.YbulkcduiPlainC1
import Derived.Lib.EndianBits
namespace Go.Proofs.Ybulkcdui.LawC

theorem land_lane (k a b A B : Nat) (ha : a < 2 ^ k) (hb : b < 2 ^ k) : (a + 2 ^ k * A) &&& (b + 2 ^ k * B) = (a &&& b) + 2 ^ k * (A &&& B) := by
  have h1 : ((a + 2 ^ k * A) &&& (b + 2 ^ k * B)) % 2 ^ k = a &&& b := by
    rw [Nat.and_mod_two_pow, Nat.add_mul_mod_self_left, Nat.add_mul_mod_self_left, Nat.mod_eq_of_lt ha, Nat.mod_eq_of_lt hb]
  have h2 : ((a + 2 ^ k * A) &&& (b + 2 ^ k * B)) / 2 ^ k = A &&& B := by
    rw [Nat.and_div_two_pow, Nat.add_mul_div_left _ _ (Nat.two_pow_pos k), Nat.add_mul_div_left _ _ (Nat.two_pow_pos k), Nat.div_eq_of_lt ha, Nat.div_eq_of_lt hb, Nat.zero_add, Nat.zero_add]
  have h3 := Nat.mod_add_div ((a + 2 ^ k * A) &&& (b + 2 ^ k * B)) (2 ^ k)
  rw [h1, h2] at h3
  exact h3.symm

theorem land8 (a b A B : Nat) (ha : a < 256) (hb : b < 256) : (a + 256 * A) &&& (b + 256 * B) = (a &&& b) + 256 * (A &&& B) := land_lane 8 a b A B ha hb
theorem land16 (a b A B : Nat) (ha : a < 65536) (hb : b < 65536) : (a + 65536 * A) &&& (b + 65536 * B) = (a &&& b) + 65536 * (A &&& B) := land_lane 16 a b A B ha hb

/-- Eight bytes as one number, the first lowest. -/
def w8 (b0 b1 b2 b3 b4 b5 b6 b7 : Nat) : Nat := b0 + 256 * (b1 + 256 * (b2 + 256 * (b3 + 256 * (b4 + 256 * (b5 + 256 * (b6 + 256 * b7))))))

theorem w8_land (b0 b1 b2 b3 b4 b5 b6 b7 c0 c1 c2 c3 c4 c5 c6 c7 : Nat) (h0 : b0 < 256) (h1 : b1 < 256) (h2 : b2 < 256) (h3 : b3 < 256) (h4 : b4 < 256) (h5 : b5 < 256) (h6 : b6 < 256)
    (g0 : c0 < 256) (g1 : c1 < 256) (g2 : c2 < 256) (g3 : c3 < 256) (g4 : c4 < 256) (g5 : c5 < 256) (g6 : c6 < 256) :
    w8 b0 b1 b2 b3 b4 b5 b6 b7 &&& w8 c0 c1 c2 c3 c4 c5 c6 c7 = w8 (b0 &&& c0) (b1 &&& c1) (b2 &&& c2) (b3 &&& c3) (b4 &&& c4) (b5 &&& c5) (b6 &&& c6) (b7 &&& c7) := by
  unfold w8
  rw [land8 _ _ _ _ h0 g0, land8 _ _ _ _ h1 g1, land8 _ _ _ _ h2 g2, land8 _ _ _ _ h3 g3, land8 _ _ _ _ h4 g4, land8 _ _ _ _ h5 g5, land8 _ _ _ _ h6 g6]

theorem w8_lt (b0 b1 b2 b3 b4 b5 b6 b7 : Nat) (h0 : b0 < 256) (h1 : b1 < 256) (h2 : b2 < 256) (h3 : b3 < 256) (h4 : b4 < 256) (h5 : b5 < 256) (h6 : b6 < 256) (h7 : b7 < 256) : w8 b0 b1 b2 b3 b4 b5 b6 b7 < 18446744073709551616 := by
  unfold w8
  omega

theorem and64 (a b : Nat) (ha : a < 18446744073709551616) (hb : b < 18446744073709551616) : bits .and .u64 (a : Int) (b : Int) = ((a &&& b : Nat) : Int) :=
  (bits_nat .u64 64 (by decide) wraps_u64 a b (by omega) (by omega)).1

theorem and_le (a b : Nat) : (a &&& b) ≤ b := Nat.and_le_right

theorem nib_T : ∀ n : Fin 256, (decide ((n.val &&& 240) = 48)) = decide (48 ≤ n.val ∧ n.val ≤ 63) := by decide +kernel
theorem low_T : ∀ n : Fin 256, decide (48 ≤ n.val ∧ n.val ≤ 57) = true → (n.val &&& 15) = n.val - 48 := by decide +kernel
theorem ff_T : ∀ n : Fin 256, (n.val &&& 255) = n.val := by decide +kernel

theorem nib (b : Nat) (h : b < 256) : (b &&& 240) = 48 ↔ (48 ≤ b ∧ b ≤ 63) := by
  exact decide_eq_decide.1 (nib_T ⟨b, h⟩)
theorem low (b : Nat) (h0 : 48 ≤ b) (h1 : b ≤ 57) : (b &&& 15) = b - 48 := low_T ⟨b, by omega⟩ (by simp; omega)
theorem ff (b : Nat) (h : b < 256) : (b &&& 255) = b := ff_T ⟨b, h⟩
theorem ffff (b : Nat) (h : b < 65536) : (b &&& 65535) = b := by
  have := Nat.and_two_pow_sub_one_eq_mod b 16
  rw [show 2 ^ 16 - 1 = 65535 from rfl] at this
  rw [this]
  omega

theorem lane_inj (a A c C : Nat) (ha : a < 256) (hc : c < 256) : a + 256 * A = c + 256 * C ↔ (a = c ∧ A = C) := by omega

theorem w8_inj (b0 b1 b2 b3 b4 b5 b6 b7 c : Nat) (hc : c < 256) (h0 : b0 < 256) (h1 : b1 < 256) (h2 : b2 < 256) (h3 : b3 < 256) (h4 : b4 < 256) (h5 : b5 < 256) (h6 : b6 < 256) :
    w8 b0 b1 b2 b3 b4 b5 b6 b7 = w8 c c c c c c c c ↔ (b0 = c ∧ b1 = c ∧ b2 = c ∧ b3 = c ∧ b4 = c ∧ b5 = c ∧ b6 = c ∧ b7 = c) := by
  unfold w8
  rw [lane_inj _ _ _ _ h0 hc, lane_inj _ _ _ _ h1 hc, lane_inj _ _ _ _ h2 hc, lane_inj _ _ _ _ h3 hc, lane_inj _ _ _ _ h4 hc, lane_inj _ _ _ _ h5 hc, lane_inj _ _ _ _ h6 hc]

/-- What isEightDigits answers. -/
def isEightF (W : Int) : Bool := (bits .and .u64 W 17361641481138401520 == 3472328296227680304) && (bits .and .u64 (IntKind.u64.wrap (W + 434041037028460038)) 17361641481138401520 == 3472328296227680304)

theorem and240_lt (b : Nat) : (b &&& 240) < 256 := by have := and_le b 240; omega

/-- The first test: the upper halves are 3. -/
theorem first_test (b0 b1 b2 b3 b4 b5 b6 b7 : Nat) (h0 : b0 < 256) (h1 : b1 < 256) (h2 : b2 < 256) (h3 : b3 < 256) (h4 : b4 < 256) (h5 : b5 < 256) (h6 : b6 < 256) (h7 : b7 < 256) :
    bits .and .u64 ((w8 b0 b1 b2 b3 b4 b5 b6 b7 : Nat) : Int) 17361641481138401520 = 3472328296227680304 ↔
      ((48 ≤ b0 ∧ b0 ≤ 63) ∧ (48 ≤ b1 ∧ b1 ≤ 63) ∧ (48 ≤ b2 ∧ b2 ≤ 63) ∧ (48 ≤ b3 ∧ b3 ≤ 63) ∧ (48 ≤ b4 ∧ b4 ≤ 63) ∧ (48 ≤ b5 ∧ b5 ≤ 63) ∧ (48 ≤ b6 ∧ b6 ≤ 63) ∧ (48 ≤ b7 ∧ b7 ≤ 63)) := by
  have e1 : (17361641481138401520 : Int) = ((w8 240 240 240 240 240 240 240 240 : Nat) : Int) := rfl
  have e2 : (3472328296227680304 : Int) = ((w8 48 48 48 48 48 48 48 48 : Nat) : Int) := rfl
  rw [e1, e2, and64 _ _ (w8_lt _ _ _ _ _ _ _ _ h0 h1 h2 h3 h4 h5 h6 h7) (by decide), w8_land _ _ _ _ _ _ _ _ _ _ _ _ _ _ _ _ h0 h1 h2 h3 h4 h5 h6 (by omega) (by omega) (by omega) (by omega) (by omega) (by omega) (by omega), Int.ofNat_inj,
    w8_inj _ _ _ _ _ _ _ _ 48 (by omega) (and240_lt _) (and240_lt _) (and240_lt _) (and240_lt _) (and240_lt _) (and240_lt _) (and240_lt _),
    nib _ h0, nib _ h1, nib _ h2, nib _ h3, nib _ h4, nib _ h5, nib _ h6, nib _ h7]

theorem isEight_iff (b0 b1 b2 b3 b4 b5 b6 b7 : Nat) (h0 : b0 < 256) (h1 : b1 < 256) (h2 : b2 < 256) (h3 : b3 < 256) (h4 : b4 < 256) (h5 : b5 < 256) (h6 : b6 < 256) (h7 : b7 < 256)
    (h : isEightF ((w8 b0 b1 b2 b3 b4 b5 b6 b7 : Nat) : Int) = true) :
      ((48 ≤ b0 ∧ b0 ≤ 57) ∧ (48 ≤ b1 ∧ b1 ≤ 57) ∧ (48 ≤ b2 ∧ b2 ≤ 57) ∧ (48 ≤ b3 ∧ b3 ≤ 57) ∧ (48 ≤ b4 ∧ b4 ≤ 57) ∧ (48 ≤ b5 ∧ b5 ≤ 57) ∧ (48 ≤ b6 ∧ b6 ≤ 57) ∧ (48 ≤ b7 ∧ b7 ≤ 57)) := by
  unfold isEightF at h
  rw [Bool.and_eq_true, beq_iff_eq, beq_iff_eq] at h
  obtain ⟨ha, hb⟩ := h
  obtain ⟨g0, g1, g2, g3, g4, g5, g6, g7⟩ := (first_test b0 b1 b2 b3 b4 b5 b6 b7 h0 h1 h2 h3 h4 h5 h6 h7).1 ha
  have e : IntKind.u64.wrap (((w8 b0 b1 b2 b3 b4 b5 b6 b7 : Nat) : Int) + 434041037028460038) = ((w8 (b0 + 6) (b1 + 6) (b2 + 6) (b3 + 6) (b4 + 6) (b5 + 6) (b6 + 6) (b7 + 6) : Nat) : Int) := by
    have hl := w8_lt (b0 + 6) (b1 + 6) (b2 + 6) (b3 + 6) (b4 + 6) (b5 + 6) (b6 + 6) (b7 + 6) (by omega) (by omega) (by omega) (by omega) (by omega) (by omega) (by omega) (by omega)
    have hs : w8 b0 b1 b2 b3 b4 b5 b6 b7 + 434041037028460038 = w8 (b0 + 6) (b1 + 6) (b2 + 6) (b3 + 6) (b4 + 6) (b5 + 6) (b6 + 6) (b7 + 6) := by unfold w8; omega
    rw [u64_wrap_id _ (by omega) (by omega)]
    omega
  rw [e] at hb
  obtain ⟨k0, k1, k2, k3, k4, k5, k6, k7⟩ := (first_test (b0 + 6) (b1 + 6) (b2 + 6) (b3 + 6) (b4 + 6) (b5 + 6) (b6 + 6) (b7 + 6) (by omega) (by omega) (by omega) (by omega) (by omega) (by omega) (by omega) (by omega)).1 hb
  omega

end Go.Proofs.Ybulkcdui.LawC
