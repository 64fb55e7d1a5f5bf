/- What eightDigitsValue answers. No walk. -/
import Derived.Test.YbulkcduiPlainC2
namespace Go.Proofs.Ybulkcdui.LawC

def valF (W : Int) : Int :=
  IntKind.u64.wrap (bits BinOp.and IntKind.u64 (IntKind.u64.wrap (bits BinOp.and IntKind.u64 (IntKind.u64.wrap (bits BinOp.and IntKind.u64 W 1085102592571150095 * 2561) / 256) 71777214294589695 * 6553601) / 65536) 281470681808895 * 42949672960001) / 4294967296

theorem wrapN (n : Nat) : IntKind.u64.wrap (n : Int) = ((n % 18446744073709551616 : Nat) : Int) := by
  rw [IntKind.wrap_u64]
  omega

/-- One step: and, product, wrap, shift, on natural numbers. -/
theorem stepN (a m c d : Nat) (ha : a < 18446744073709551616) (hm : m < 18446744073709551616) :
    IntKind.u64.wrap (bits .and .u64 (a : Int) (m : Int) * (c : Int)) / (d : Int) = (((a &&& m) * c % 18446744073709551616 / d : Nat) : Int) := by
  rw [and64 a m ha hm, ← Int.natCast_mul, wrapN, Int.natCast_ediv]

theorem step1 (d0 d1 d2 d3 d4 d5 d6 d7 : Nat) (h0 : d0 ≤ 9) (h1 : d1 ≤ 9) (h2 : d2 ≤ 9) (h3 : d3 ≤ 9) (h4 : d4 ≤ 9) (h5 : d5 ≤ 9) (h6 : d6 ≤ 9) (h7 : d7 ≤ 9) :
    w8 d0 d1 d2 d3 d4 d5 d6 d7 * 2561 % 18446744073709551616 / 256 = w8 (10 * d0 + d1) (10 * d1 + d2) (10 * d2 + d3) (10 * d3 + d4) (10 * d4 + d5) (10 * d5 + d6) (10 * d6 + d7) 0 := by
  have e : w8 d0 d1 d2 d3 d4 d5 d6 d7 * 2561 = (d0 + 256 * w8 (10 * d0 + d1) (10 * d1 + d2) (10 * d2 + d3) (10 * d3 + d4) (10 * d4 + d5) (10 * d5 + d6) (10 * d6 + d7) 0) + 18446744073709551616 * (10 * d7) := by
    unfold w8
    omega
  have hb : w8 (10 * d0 + d1) (10 * d1 + d2) (10 * d2 + d3) (10 * d3 + d4) (10 * d4 + d5) (10 * d5 + d6) (10 * d6 + d7) 0 < 72057594037927936 := by
    unfold w8
    omega
  rw [e, Nat.add_mul_mod_self_left, Nat.mod_eq_of_lt (by omega), Nat.add_mul_div_left _ _ (by omega), Nat.div_eq_of_lt (by omega), Nat.zero_add]

def w4 (p0 p1 p2 p3 : Nat) : Nat := p0 + 65536 * (p1 + 65536 * (p2 + 65536 * p3))

theorem mask1 (p0 p1 p2 p3 p4 p5 p6 : Nat) (h0 : p0 < 256) (h1 : p1 < 256) (h2 : p2 < 256) (h3 : p3 < 256) (h4 : p4 < 256) (h5 : p5 < 256) (h6 : p6 < 256) :
    w8 p0 p1 p2 p3 p4 p5 p6 0 &&& 71777214294589695 = w4 p0 p2 p4 p6 := by
  have e : (71777214294589695 : Nat) = w8 255 0 255 0 255 0 255 0 := rfl
  rw [e, w8_land _ _ _ _ _ _ _ _ _ _ _ _ _ _ _ _ h0 h1 h2 h3 h4 h5 h6 (by omega) (by omega) (by omega) (by omega) (by omega) (by omega) (by omega), ff _ h0, ff _ h2, ff _ h4, ff _ h6, Nat.and_zero, Nat.and_zero, Nat.and_zero, Nat.and_zero]
  unfold w8 w4
  omega

theorem step2 (p0 p1 p2 p3 : Nat) (h0 : p0 ≤ 99) (h1 : p1 ≤ 99) (h2 : p2 ≤ 99) (h3 : p3 ≤ 99) :
    w4 p0 p1 p2 p3 * 6553601 % 18446744073709551616 / 65536 = w4 (100 * p0 + p1) (100 * p1 + p2) (100 * p2 + p3) 0 := by
  have e : w4 p0 p1 p2 p3 * 6553601 = (p0 + 65536 * w4 (100 * p0 + p1) (100 * p1 + p2) (100 * p2 + p3) 0) + 18446744073709551616 * (100 * p3) := by
    unfold w4
    omega
  have hb : w4 (100 * p0 + p1) (100 * p1 + p2) (100 * p2 + p3) 0 < 281474976710656 := by
    unfold w4
    omega
  rw [e, Nat.add_mul_mod_self_left, Nat.mod_eq_of_lt (by omega), Nat.add_mul_div_left _ _ (by omega), Nat.div_eq_of_lt (by omega), Nat.zero_add]

theorem mask2 (q0 q1 q2 : Nat) (h0 : q0 < 65536) (h1 : q1 < 65536) (h2 : q2 < 65536) : w4 q0 q1 q2 0 &&& 281470681808895 = q0 + 4294967296 * q2 := by
  have e : (281470681808895 : Nat) = 65535 + 65536 * (0 + 65536 * (65535 + 65536 * 0)) := rfl
  unfold w4
  rw [e, land16 _ _ _ _ h0 (by omega), land16 _ _ _ _ h1 (by omega), land16 _ _ _ _ h2 (by omega), ffff _ h0, ffff _ h2, Nat.and_zero, Nat.and_zero]
  omega

theorem step3 (r0 r1 : Nat) (h0 : r0 ≤ 9999) (h1 : r1 ≤ 9999) : (r0 + 4294967296 * r1) * 42949672960001 % 18446744073709551616 / 4294967296 = 10000 * r0 + r1 := by
  have e : (r0 + 4294967296 * r1) * 42949672960001 = (r0 + 4294967296 * (10000 * r0 + r1)) + 18446744073709551616 * (10000 * r1) := by omega
  rw [e, Nat.add_mul_mod_self_left, Nat.mod_eq_of_lt (by omega), Nat.add_mul_div_left _ _ (by omega), Nat.div_eq_of_lt (by omega), Nat.zero_add]

theorem w4_lt (p0 p1 p2 p3 : Nat) (h0 : p0 < 65536) (h1 : p1 < 65536) (h2 : p2 < 65536) (h3 : p3 < 65536) : w4 p0 p1 p2 p3 < 18446744073709551616 := by
  unfold w4
  omega

/-- THE VALUE OF EIGHT DIGITS. -/
theorem val_eq (b0 b1 b2 b3 b4 b5 b6 b7 : Nat) (h0 : 48 ≤ b0 ∧ b0 ≤ 57) (h1 : 48 ≤ b1 ∧ b1 ≤ 57) (h2 : 48 ≤ b2 ∧ b2 ≤ 57) (h3 : 48 ≤ b3 ∧ b3 ≤ 57) (h4 : 48 ≤ b4 ∧ b4 ≤ 57) (h5 : 48 ≤ b5 ∧ b5 ≤ 57) (h6 : 48 ≤ b6 ∧ b6 ≤ 57) (h7 : 48 ≤ b7 ∧ b7 ≤ 57) :
    valF ((w8 b0 b1 b2 b3 b4 b5 b6 b7 : Nat) : Int) =
      (((((((((b0 - 48 : Nat) * 10 + (b1 - 48)) * 10 + (b2 - 48)) * 10 + (b3 - 48)) * 10 + (b4 - 48)) * 10 + (b5 - 48)) * 10 + (b6 - 48)) * 10 + (b7 - 48) : Nat) : Int) := by
  unfold valF
  have m1 : w8 b0 b1 b2 b3 b4 b5 b6 b7 &&& 1085102592571150095 = w8 (b0 - 48) (b1 - 48) (b2 - 48) (b3 - 48) (b4 - 48) (b5 - 48) (b6 - 48) (b7 - 48) := by
    have e : (1085102592571150095 : Nat) = w8 15 15 15 15 15 15 15 15 := rfl
    rw [e, w8_land _ _ _ _ _ _ _ _ _ _ _ _ _ _ _ _ (by omega) (by omega) (by omega) (by omega) (by omega) (by omega) (by omega) (by omega) (by omega) (by omega) (by omega) (by omega) (by omega) (by omega),
      low _ h0.1 h0.2, low _ h1.1 h1.2, low _ h2.1 h2.2, low _ h3.1 h3.2, low _ h4.1 h4.2, low _ h5.1 h5.2, low _ h6.1 h6.2, low _ h7.1 h7.2]
  have s1 := stepN (w8 b0 b1 b2 b3 b4 b5 b6 b7) 1085102592571150095 2561 256 (w8_lt _ _ _ _ _ _ _ _ (by omega) (by omega) (by omega) (by omega) (by omega) (by omega) (by omega) (by omega)) (by omega)
  rw [m1, step1 _ _ _ _ _ _ _ _ (by omega) (by omega) (by omega) (by omega) (by omega) (by omega) (by omega) (by omega)] at s1
  have s2 := stepN (w8 (10 * (b0 - 48) + (b1 - 48)) (10 * (b1 - 48) + (b2 - 48)) (10 * (b2 - 48) + (b3 - 48)) (10 * (b3 - 48) + (b4 - 48)) (10 * (b4 - 48) + (b5 - 48)) (10 * (b5 - 48) + (b6 - 48)) (10 * (b6 - 48) + (b7 - 48)) 0) 71777214294589695 6553601 65536
    (w8_lt _ _ _ _ _ _ _ _ (by omega) (by omega) (by omega) (by omega) (by omega) (by omega) (by omega) (by omega)) (by omega)
  rw [mask1 _ _ _ _ _ _ _ (by omega) (by omega) (by omega) (by omega) (by omega) (by omega) (by omega), step2 _ _ _ _ (by omega) (by omega) (by omega) (by omega)] at s2
  have s3 := stepN (w4 (100 * (10 * (b0 - 48) + (b1 - 48)) + (10 * (b2 - 48) + (b3 - 48))) (100 * (10 * (b2 - 48) + (b3 - 48)) + (10 * (b4 - 48) + (b5 - 48))) (100 * (10 * (b4 - 48) + (b5 - 48)) + (10 * (b6 - 48) + (b7 - 48))) 0) 281470681808895 42949672960001 4294967296
    (w4_lt _ _ _ _ (by omega) (by omega) (by omega) (by omega)) (by omega)
  rw [mask2 _ _ _ (by omega) (by omega) (by omega), step3 _ _ (by omega) (by omega)] at s3
  have e1 : IntKind.u64.wrap (bits BinOp.and IntKind.u64 ((w8 b0 b1 b2 b3 b4 b5 b6 b7 : Nat) : Int) 1085102592571150095 * 2561) / 256 = _ := s1
  rw [e1]
  have e2 : IntKind.u64.wrap (bits BinOp.and IntKind.u64 ((w8 (10 * (b0 - 48) + (b1 - 48)) (10 * (b1 - 48) + (b2 - 48)) (10 * (b2 - 48) + (b3 - 48)) (10 * (b3 - 48) + (b4 - 48)) (10 * (b4 - 48) + (b5 - 48)) (10 * (b5 - 48) + (b6 - 48)) (10 * (b6 - 48) + (b7 - 48)) 0 : Nat) : Int) 71777214294589695 * 6553601) / 65536 = _ := s2
  rw [e2]
  refine Eq.trans s3 ?_
  rw [Int.ofNat_inj]
  omega

end Go.Proofs.Ybulkcdui.LawC
