import Derived.Test.YbulkcduiWalkC1
namespace Go.Proofs.Ybulkcdui
open Go.RowKit
namespace LawC

set_option maxHeartbeats 800000 in
theorem us_any (s : ByteArray) (bs : Int) (k : Nat) (w : World) (hs : s.size ≤ 4096) (hb : 10 ≤ bs) (hb' : bs ≤ 16) (hk : k < s.size) :
    Calls Yba.prog 23 #[.string s, .int .i64 (k : Int), .int .i64 bs] w fun e w' => e = .returned (.bool (us s bs k)) ∧ w' = w := by
  have HU : Hid (us s bs k = ((isDI s bs ((k : Int) - 1) || (decide (k = 0) && decide (bs = 16))) && isDI s bs ((k : Int) + 1))) := rfl
  obtain ⟨U, hU⟩ : ∃ U, us s bs k = U := ⟨_, rfl⟩
  rw [hU] at HU ⊢
  clear hU
  cases hA : isDI s bs ((k : Int) - 1) with
  | true =>
    cases hB : isDI s bs ((k : Int) + 1) <;>
    (go_enter Yba.func23, Yba.ntmps23
     go_wp2_with (go_at_call 30; refine (isDigitAt_any s bs _ _ hs hb hb' (by omega) (by omega)).mono ?_; rintro e w' ⟨rfl, hw'⟩; subst hw')
     go_ret
     exact ⟨by have := HU.out; simp [hA, hB] at this; subst this; rfl, rfl⟩)
  | false =>
    by_cases h0 : k = 0
    · subst h0
      have hm : isDI s bs (-1) = false := isDI_out s bs (-1) (.inl (by omega))
      by_cases h6 : (bs == 16) = true
      · have HV : Hid (U = isDI s bs 1) := by show _ = _; rw [HU.out]; simp [beq_iff_eq.1 h6]
        cases hB : isDI s bs 1 <;>
        (go_enter Yba.func23, Yba.ntmps23
         go_wp2_with (go_at_call 30; refine (isDigitAt_any s bs _ _ hs hb hb' (by omega) (by omega)).mono ?_; rintro e w' ⟨rfl, hw'⟩; subst hw')
         go_ret
         exact ⟨by rw [HV.out, hB]; rfl, rfl⟩)
      · have h6' : (bs == 16) = false := by simpa using h6
        go_enter Yba.func23, Yba.ntmps23
        go_wp2_with (go_at_call 30; refine (isDigitAt_any s bs _ _ hs hb hb' (by omega) (by omega)).mono ?_; rintro e w' ⟨rfl, hw'⟩; subst hw')
        go_ret
        exact ⟨by have := HU.out; simp at h6'; simp [hm, h6'] at this; subst this; rfl, rfl⟩
    · have h0' : ((k : Int) == 0) = false := by simp; omega
      go_enter Yba.func23, Yba.ntmps23
      go_wp2_with (go_at_call 30; refine (isDigitAt_any s bs _ _ hs hb hb' (by omega) (by omega)).mono ?_; rintro e w' ⟨rfl, hw'⟩; subst hw')
      go_ret
      exact ⟨by have := HU.out; simp [hA, h0] at this; subst this; rfl, rfl⟩

end LawC
end Go.Proofs.Ybulkcdui
