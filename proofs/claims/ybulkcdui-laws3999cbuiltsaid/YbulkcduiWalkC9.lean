import Derived.Test.YbulkcduiWalkC8
namespace Go.Proofs.Ybulkcdui
open Go.RowKit
namespace LawC

theorem us_zero_16 (s : ByteArray) (h : 1 < s.size) : us s 16 0 = decide (dvU (byteI s 1) < 16) := by
  have e := isDI_in s 16 1 h
  unfold us
  rw [show ((0 : Nat) : Int) + 1 = ((1 : Nat) : Int) from rfl, e]
  simp
theorem us_zero_10 (s : ByteArray) : us s 10 0 = false := by
  unfold us
  rw [isDI_out s 10 _ (.inl (by omega))]
  simp
theorem us_last (s : ByteArray) (bs : Int) (k : Nat) (h : s.size ≤ k + 1) : us s bs k = false := by
  unfold us
  rw [isDI_out s bs ((k : Int) + 1) (.inr (by omega)), Bool.and_false]
theorem us_mid (s : ByteArray) (bs : Int) (k : Nat) (h0 : 0 < k) (h : k + 1 < s.size) : us s bs k = (decide (dvU (byteI s (k - 1)) < bs) && decide (dvU (byteI s (k + 1)) < bs)) := by
  have e1 := isDI_in s bs (k - 1) (by omega)
  have e2 := isDI_in s bs (k + 1) h
  unfold us
  rw [show (k : Int) - 1 = ((k - 1 : Nat) : Int) by omega, show (k : Int) + 1 = ((k + 1 : Nat) : Int) by omega, e1, e2]
  have : decide (k = 0) = false := by simp; omega
  rw [this, Bool.false_and, Bool.or_false]

set_option maxHeartbeats 1600000 in
theorem cus_any (s : ByteArray) (bs : Int) (k : Nat) (w : World) (hs : s.size ≤ 4096) (hb : bs = 10 ∨ bs = 16) (hk : k < s.size) (hgood : ∀ j, j < s.size → goodB (byteI s j)) :
    Calls Yba.prog 29 #[.string s, .int .i64 (k : Int), .int .i64 bs] w fun e w' => e = .returned (.bool (us s bs k)) ∧ w' = w := by
  by_cases hk0 : k = 0
  · subst hk0
    rcases hb with rfl | rfl
    · rw [us_zero_10]
      clear hgood
      go_enter Yba.func29, Yba.ntmps29
      go_wp2
      go_ret
      exact ⟨rfl, rfl⟩
    · by_cases h1 : 1 < s.size
      · rw [us_zero_16 s h1]
        have gB := hgood 1 h1
        rw [← byteI_eq s 1 h1] at gB ⊢
        clear hgood
        have h1' : (1 : Int) < (s.size : Int) := by omega
        go_enter Yba.func29, Yba.ntmps29
        go_wp2_with (go_at_call 28; refine (cdig_any _ 16 _ gB (.inr rfl)).mono ?_; rintro e w' ⟨rfl, hw'⟩; subst hw')
        go_ret
        exact ⟨rfl, rfl⟩
      · rw [us_last s 16 0 (by omega)]
        clear hgood
        have h1' : (s.size : Int) ≤ 1 := by omega
        go_enter Yba.func29, Yba.ntmps29
        go_wp2
        go_ret
        exact ⟨rfl, rfl⟩
  · have hkp : k - 1 < s.size := by omega
    obtain ⟨cA, hcA⟩ : ∃ c, ((s[k - 1]'hkp).toNat : Int) = c := ⟨_, rfl⟩
    have HCA : Hid (byteI s (k - 1) = cA) := by show _ = _; rw [← byteI_eq s (k - 1) hkp]; exact hcA
    have gA : goodB cA := by rw [← HCA.out]; exact hgood _ hkp
    have hk0' : ((k : Int) == 0) = false := by simp; omega
    have hkpos : (0 : Int) < (k : Int) := by omega
    by_cases h1 : k + 1 < s.size
    · obtain ⟨cB, hcB⟩ : ∃ c, ((s[k + 1]'h1).toNat : Int) = c := ⟨_, rfl⟩
      have HCB : Hid (byteI s (k + 1) = cB) := by show _ = _; rw [← byteI_eq s (k + 1) h1]; exact hcB
      have gB : goodB cB := by rw [← HCB.out]; exact hgood _ h1
      rw [us_mid s bs k (by omega) h1, HCA.out, HCB.out]
      clear hgood
      have h1' : (k : Int) + 1 < (s.size : Int) := by omega
      cases hA : decide (dvU cA < bs) with
      | true =>
        go_enter Yba.func29, Yba.ntmps29
        go_wp2_with (first | (go_at_call_of 28 cA; refine (cdig_any cA bs _ gA hb).mono ?_; rintro e w' ⟨rfl, hw'⟩; subst hw') | (go_at_call_of 28 cB; refine (cdig_any cB bs _ gB hb).mono ?_; rintro e w' ⟨rfl, hw'⟩; subst hw'))
        go_ret
        exact ⟨rfl, rfl⟩
      | false =>
        go_enter Yba.func29, Yba.ntmps29
        go_wp2_with (first | (go_at_call_of 28 cA; refine (cdig_any cA bs _ gA hb).mono ?_; rintro e w' ⟨rfl, hw'⟩; subst hw'))
        go_ret
        exact ⟨rfl, rfl⟩
    · rw [us_last s bs k (by omega)]
      clear hgood
      have h1' : (s.size : Int) ≤ (k : Int) + 1 := by omega
      cases hA : decide (dvU cA < bs) with
      | true =>
        go_enter Yba.func29, Yba.ntmps29
        go_wp2_with (go_at_call 28; refine (cdig_any cA bs _ gA hb).mono ?_; rintro e w' ⟨rfl, hw'⟩; subst hw')
        go_ret
        exact ⟨rfl, rfl⟩
      | false =>
        go_enter Yba.func29, Yba.ntmps29
        go_wp2_with (go_at_call 28; refine (cdig_any cA bs _ gA hb).mono ?_; rintro e w' ⟨rfl, hw'⟩; subst hw')
        go_ret
        exact ⟨rfl, rfl⟩

end LawC
end Go.Proofs.Ybulkcdui
