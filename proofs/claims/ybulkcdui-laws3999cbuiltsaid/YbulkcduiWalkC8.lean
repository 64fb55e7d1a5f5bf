import Derived.Test.YbulkcduiWalkC6
namespace Go.Proofs.Ybulkcdui
open Go.RowKit
namespace LawC

/-- The bytes of the table, by kind. -/
def kindT (i : Nat) : Bool :=
  let c := byteI tabS i
  decide (48 ≤ c ∧ c ≤ 57) || decide (97 ≤ c ∧ c ≤ 102 ∧ dvU c = c - 87) || decide (65 ≤ c ∧ c ≤ 70 ∧ dvU c = c - 55) || decide (16 ≤ dvU c ∧ ¬ (48 ≤ c ∧ c ≤ 57) ∧ ¬ (97 ≤ c ∧ c ≤ 102) ∧ ¬ (65 ≤ c ∧ c ≤ 70))

theorem kindT_all : ∀ i : Fin 35, kindT i.val = true := by decide +kernel

theorem goodB_kind {c : Int} (h : goodB c) : (48 ≤ c ∧ c ≤ 57) ∨ (97 ≤ c ∧ c ≤ 102 ∧ dvU c = c - 87) ∨ (65 ≤ c ∧ c ≤ 70 ∧ dvU c = c - 55) ∨ (16 ≤ dvU c ∧ ¬ (48 ≤ c ∧ c ≤ 57) ∧ ¬ (97 ≤ c ∧ c ≤ 102) ∧ ¬ (65 ≤ c ∧ c ≤ 70)) := by
  obtain ⟨i, hi, rfl⟩ := h
  have := kindT_all ⟨i, hi⟩
  unfold kindT at this
  simp only [Bool.or_eq_true, decide_eq_true_eq] at this
  rcases this with ((h | h) | h) | h
  · exact .inl h
  · exact .inr (.inl h)
  · exact .inr (.inr (.inl h))
  · exact .inr (.inr (.inr h))

/-- What the model's digit function answers. -/
def cval (bs c : Int) : Int := if dvU c < bs then dvU c else 0

theorem ret_pair {a b : Int} {x y : Bool} (h : a = b) (k : x = y) : Ending.returned (.tuple #[.int .u64 a, .bool x]) = .returned (.tuple #[.int .u64 b, .bool y]) := by rw [h, k]

set_option maxHeartbeats 800000 in
theorem cdig_any (c bs : Int) (w : World) (hg : goodB c) (hb : bs = 10 ∨ bs = 16) :
    Calls Yba.prog 28 #[.int .u8 c, .int .i64 bs] w fun e w' => e = .returned (.tuple #[.int .u64 (cval bs c), .bool (decide (dvU c < bs))]) ∧ w' = w := by
  have hr := goodB_range hg
  obtain ⟨hr0, hr1⟩ := hr
  rcases goodB_kind hg with ⟨k0, k1⟩ | ⟨k0, k1, k2⟩ | ⟨k0, k1, k2⟩ | ⟨k0, k1, k2, k3⟩
  · have HV : Hid (cval bs c = c - 48 ∧ decide (dvU c < bs) = true) := by
      have e := dvU_dec c ⟨k0, k1⟩
      have h : dvU c < bs := by omega
      exact ⟨by unfold cval; rw [if_pos h, e], by simp [h]⟩
    rw [HV.out.1, HV.out.2]
    clear hb hg HV
    go_enter Yba.func28, Yba.ntmps28
    go_wp2
    go_ret2
    exact ⟨rfl, rfl⟩
  · have n1 : ¬ c ≤ 57 := by omega
    rcases hb with rfl | rfl
    · have HV : Hid (cval 10 c = 0 ∧ decide (dvU c < 10) = false) := by
        have h : ¬ dvU c < 10 := by omega
        exact ⟨by unfold cval; rw [if_neg h], by simp [h]⟩
      rw [HV.out.1, HV.out.2]
      clear hg HV k2
      go_enter Yba.func28, Yba.ntmps28
      go_wp2
      go_ret2
      exact ⟨rfl, rfl⟩
    · have HV : Hid (cval 16 c = c - 97 + 10 ∧ decide (dvU c < 16) = true) := by
        have h : dvU c < 16 := by omega
        exact ⟨by unfold cval; rw [if_pos h]; omega, by simp [h]⟩
      rw [HV.out.1, HV.out.2]
      clear hg HV k2
      go_enter Yba.func28, Yba.ntmps28
      go_wp2
      go_ret2
      exact ⟨rfl, rfl⟩
  · have n1 : ¬ c ≤ 57 := by omega
    have n2 : ¬ 97 ≤ c := by omega
    rcases hb with rfl | rfl
    · have HV : Hid (cval 10 c = 0 ∧ decide (dvU c < 10) = false) := by
        have h : ¬ dvU c < 10 := by omega
        exact ⟨by unfold cval; rw [if_neg h], by simp [h]⟩
      rw [HV.out.1, HV.out.2]
      clear hg HV k2
      go_enter Yba.func28, Yba.ntmps28
      go_wp2
      go_ret2
      exact ⟨rfl, rfl⟩
    · have HV : Hid (cval 16 c = c - 65 + 10 ∧ decide (dvU c < 16) = true) := by
        have h : dvU c < 16 := by omega
        exact ⟨by unfold cval; rw [if_pos h]; omega, by simp [h]⟩
      rw [HV.out.1, HV.out.2]
      clear hg HV k2
      go_enter Yba.func28, Yba.ntmps28
      go_wp2
      go_ret2
      exact ⟨rfl, rfl⟩
  · have HV : Hid (cval bs c = 0 ∧ decide (dvU c < bs) = false) := by
      have h : ¬ dvU c < bs := by omega
      exact ⟨by unfold cval; rw [if_neg h], by simp [h]⟩
    rw [HV.out.1, HV.out.2]
    clear hg HV k0
    rcases hb with rfl | rfl
    · by_cases g1 : c < 48
      · clear k1 k2 k3
        go_enter Yba.func28, Yba.ntmps28
        go_wp2
        go_ret2
        exact ⟨rfl, rfl⟩
      · have g2 : 57 < c := by omega
        clear k1 k2 k3
        go_enter Yba.func28, Yba.ntmps28
        go_wp2
        go_ret2
        exact ⟨rfl, rfl⟩
    · by_cases g1 : c < 48
      · clear k1 k2 k3
        go_enter Yba.func28, Yba.ntmps28
        go_wp2
        go_ret2
        exact ⟨rfl, rfl⟩
      · have g2 : 57 < c := by omega
        by_cases g3 : c < 65
        · clear k1 k2 k3
          go_enter Yba.func28, Yba.ntmps28
          go_wp2
          go_ret2
          exact ⟨rfl, rfl⟩
        · have g4 : 70 < c := by omega
          by_cases g5 : c < 97
          · clear k1 k2 k3
            go_enter Yba.func28, Yba.ntmps28
            go_wp2
            go_ret2
            exact ⟨rfl, rfl⟩
          · have g6 : 102 < c := by omega
            clear k1 k2 k3
            go_enter Yba.func28, Yba.ntmps28
            go_wp2
            go_ret2
            exact ⟨rfl, rfl⟩

end LawC
end Go.Proofs.Ybulkcdui
