import Derived.Test.YbulkcduiWalkC2
import Derived.Test.YbulkcduiPlainC3
import Derived.Deep.QuietTactic
import Derived.BigQuiet
namespace Go.Proofs.Ybulkcdui
open Go.RowKit
namespace LawC

def bN (t : ByteArray) (k : Nat) : Nat := (byteI t k).toNat
theorem bN_eq (t : ByteArray) (k : Nat) (h : k < t.size) : (t[k]'h).toNat = bN t k := by
  unfold bN
  rw [← byteI_eq t k h]
  rfl
theorem bN_lt (t : ByteArray) (k : Nat) : bN t k < 256 := by
  unfold bN
  have := byteI_lt t k
  omega

def word8 (t : ByteArray) : Nat := w8 (bN t 0) (bN t 1) (bN t 2) (bN t 3) (bN t 4) (bN t 5) (bN t 6) (bN t 7)

theorem or_chain (b0 b1 b2 b3 b4 b5 b6 b7 : Nat) (h0 : b0 < 256) (h1 : b1 < 256) (h2 : b2 < 256) (h3 : b3 < 256) (h4 : b4 < 256) (h5 : b5 < 256) (h6 : b6 < 256) (h7 : b7 < 256) :
    bits BinOp.or IntKind.u64 (bits BinOp.or IntKind.u64 (bits BinOp.or IntKind.u64 (bits BinOp.or IntKind.u64 (bits BinOp.or IntKind.u64 (bits BinOp.or IntKind.u64 (bits BinOp.or IntKind.u64 (IntKind.u64.wrap (b0 : Int))
      (IntKind.u64.wrap (IntKind.u64.wrap (b1 : Int) * 256))) (IntKind.u64.wrap (IntKind.u64.wrap (b2 : Int) * 65536))) (IntKind.u64.wrap (IntKind.u64.wrap (b3 : Int) * 16777216))) (IntKind.u64.wrap (IntKind.u64.wrap (b4 : Int) * 4294967296)))
      (IntKind.u64.wrap (IntKind.u64.wrap (b5 : Int) * 1099511627776))) (IntKind.u64.wrap (IntKind.u64.wrap (b6 : Int) * 281474976710656))) (IntKind.u64.wrap (IntKind.u64.wrap (b7 : Int) * 72057594037927936)) = ((w8 b0 b1 b2 b3 b4 b5 b6 b7 : Nat) : Int) := by
  simp (disch := omega) only [u64_wrap_id, u64_or8, u64_or16, u64_or24, u64_or32, u64_or40, u64_or48, u64_or56]
  unfold w8
  omega

theorem ret_u64 {a b : Int} (h : a = b) : Ending.returned (.int .u64 a) = .returned (.int .u64 b) := by rw [h]

set_option maxHeartbeats 800000 in
theorem load8_any (t : ByteArray) (w : World) (h : 8 ≤ t.size) :
    Calls Yba.prog 24 #[.string t] w fun e w' => e = .returned (.int .u64 ((word8 t : Nat) : Int)) ∧ ∃ n, w' = w.drewN n := by
  have q0 : 0 < t.size := by omega
  have q1 : (1 : Int) < (t.size : Int) := by omega
  have q2 : (2 : Int) < (t.size : Int) := by omega
  have q3 : (3 : Int) < (t.size : Int) := by omega
  have q4 : (4 : Int) < (t.size : Int) := by omega
  have q5 : (5 : Int) < (t.size : Int) := by omega
  have q6 : (6 : Int) < (t.size : Int) := by omega
  have q7 : (7 : Int) < (t.size : Int) := by omega
  go_enter Yba.func24, Yba.ntmps24
  go_wp2
  go_quiet (fail)
  go_wp2
  go_ret
  refine ⟨ret_u64 ?_, _, rfl⟩
  refine Eq.trans (or_chain _ _ _ _ _ _ _ _ (UInt8.toNat_lt _) (UInt8.toNat_lt _) (UInt8.toNat_lt _) (UInt8.toNat_lt _) (UInt8.toNat_lt _) (UInt8.toNat_lt _) (UInt8.toNat_lt _) (UInt8.toNat_lt _)) ?_
  unfold word8
  rw [bN_eq, bN_eq, bN_eq, bN_eq, bN_eq, bN_eq, bN_eq, bN_eq]

theorem isEight_any (W : Int) (w : World) :
    Calls Yba.prog 25 #[.int .u64 W] w fun e w' => e = .returned (.bool (isEightF W)) ∧ w' = w := by
  have HE : Hid (isEightF W = ((bits .and .u64 W 17361641481138401520 == 3472328296227680304) && (bits .and .u64 (IntKind.u64.wrap (W + 434041037028460038)) 17361641481138401520 == 3472328296227680304))) := rfl
  obtain ⟨U, hU⟩ : ∃ U, isEightF W = U := ⟨_, rfl⟩
  rw [hU] at HE ⊢
  clear hU
  cases hA : (bits .and .u64 W 17361641481138401520 == 3472328296227680304) with
  | true =>
    go_enter Yba.func25, Yba.ntmps25
    go_wp2
    go_ret
    exact ⟨by rw [HE.out, hA, Bool.true_and]; rfl, rfl⟩
  | false =>
    go_enter Yba.func25, Yba.ntmps25
    go_wp2
    go_ret
    exact ⟨by rw [HE.out, hA, Bool.false_and]; rfl, rfl⟩

theorem eightVal_any (W : Int) (w : World) :
    Calls Yba.prog 26 #[.int .u64 W] w fun e w' => e = .returned (.int .u64 (valF W)) ∧ w' = w := by
  unfold valF
  go_enter Yba.func26, Yba.ntmps26
  go_wp2
  go_ret
  exact ⟨rfl, rfl⟩

end LawC
end Go.Proofs.Ybulkcdui
