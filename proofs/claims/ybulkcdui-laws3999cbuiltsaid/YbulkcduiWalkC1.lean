import Derived.Test.YbulkcduiProg
import Derived.Test.YbulkcduiPlainC1
import Derived.WalkKit
import Derived.Deep.LoopGhost
import Derived.KernelRfl
import Derived.WalkLawsBesides
namespace Go.Proofs.Ybulkcdui
open Go.RowKit
namespace LawC

theorem digitValue_a (c : Int) (w : World) (h0 : 48 ≤ c) (h1 : c ≤ 57) :
    Calls Yba.prog 27 #[.int .u8 c] w fun e w' => e = .returned (.int .u64 (c - 48)) ∧ w' = w := by
  go_enter Yba.func27, Yba.ntmps27
  go_wp2
  go_ret
  exact ⟨rfl, rfl⟩

theorem wrap_far (c : Int) (h0 : 0 ≤ c) (h1 : c < 48) : 10 ≤ IntKind.u64.wrap (c - 48) := by
  rw [IntKind.wrap_u64]
  omega

theorem digitValue_any (c : Int) (w : World) (h0 : 0 ≤ c) (h1 : c < 256) :
    Calls Yba.prog 27 #[.int .u8 c] w fun e w' => e = .returned (.int .u64 (dvU c)) ∧ w' = w := by
  by_cases ha : 48 ≤ c
  · by_cases hb : c ≤ 57
    · rw [dvU_dec c ⟨ha, hb⟩]
      exact digitValue_a c w ha hb
    · unfold dvU
      rw [if_neg (by omega)]
      go_enter Yba.func27, Yba.ntmps27
      go_wp2
      go_ret
      exact ⟨rfl, rfl⟩
  · unfold dvU
    rw [if_neg (by omega)]
    have hf := wrap_far c h0 (by omega)
    go_enter Yba.func27, Yba.ntmps27
    go_wp2
    go_ret
    exact ⟨rfl, rfl⟩

theorem wrap_neg (i : Int) (n : Nat) (hi : i < 0) (hj : -1 ≤ i) (hn : n ≤ 4096) : ¬ IntKind.u64.wrap i < (n : Int) := by
  rw [IntKind.wrap_u64]
  omega

set_option maxHeartbeats 400000 in
theorem isDigitAt_any (s : ByteArray) (bs i : Int) (w : World) (hs : s.size ≤ 4096) (hb : 10 ≤ bs) (hb' : bs ≤ 16) (hi : -1 ≤ i) (hi' : i ≤ 4097) :
    Calls Yba.prog 30 #[.string s, .int .i64 i, .int .i64 bs] w fun e w' => e = .returned (.bool (isDI s bs i)) ∧ w' = w := by
  by_cases h0 : i < 0
  · rw [isDI_out s bs i (.inl h0)]
    have hw := wrap_neg i s.size h0 hi hs
    go_enter Yba.func30, Yba.ntmps30
    go_wp2
    go_ret
    exact ⟨rfl, rfl⟩
  · obtain ⟨k, rfl⟩ : ∃ k : Nat, i = (k : Int) := ⟨i.toNat, by omega⟩
    by_cases h1 : k < s.size
    · rw [isDI_in s bs k h1, ← byteI_eq s k h1]
      have hc := (s[k]'h1).toNat_lt
      go_enter Yba.func30, Yba.ntmps30
      go_wp2_with (go_at_call 27; refine (digitValue_any _ _ (by omega) (by omega)).mono ?_; rintro e w' ⟨rfl, hw'⟩; subst hw')
      go_ret
      exact ⟨rfl, rfl⟩
    · rw [isDI_out s bs k (.inr (by omega))]
      go_enter Yba.func30, Yba.ntmps30
      go_wp2
      go_ret
      exact ⟨rfl, rfl⟩

end LawC
end Go.Proofs.Ybulkcdui
