/- Eight digits at once; the text that was read, read again. No walk. -/
import Derived.Test.YbulkcduiPlainC4
namespace Go.Proofs.Ybulkcdui.LawC

theorem stepX_mod (bs x v : Int) : stepX bs x v = (x * bs + v) % 18446744073709551616 := by
  unfold stepX
  rw [IntKind.wrap_u64, IntKind.wrap_u64]
  generalize x * bs = a
  omega

theorem stepX_chain (y v : Int) : stepX 10 (y % 18446744073709551616) v = (y * 10 + v) % 18446744073709551616 := by
  rw [stepX_mod]
  omega

theorem stepX_eight (x v0 v1 v2 v3 v4 v5 v6 v7 : Int) :
    stepX 10 (stepX 10 (stepX 10 (stepX 10 (stepX 10 (stepX 10 (stepX 10 (stepX 10 x v0) v1) v2) v3) v4) v5) v6) v7 =
      IntKind.u64.wrap (IntKind.u64.wrap (x * 100000000) + (((((((v0 * 10 + v1) * 10 + v2) * 10 + v3) * 10 + v4) * 10 + v5) * 10 + v6) * 10 + v7)) := by
  rw [stepX_mod 10 x v0, stepX_chain, stepX_chain, stepX_chain, stepX_chain, stepX_chain, stepX_chain, stepX_chain, IntKind.wrap_u64, IntKind.wrap_u64]
  omega

theorem nat_int_eight (c0 c1 c2 c3 c4 c5 c6 c7 : Int) (h0 : 48 ≤ c0.toNat) (h1 : 48 ≤ c1.toNat) (h2 : 48 ≤ c2.toNat) (h3 : 48 ≤ c3.toNat) (h4 : 48 ≤ c4.toNat) (h5 : 48 ≤ c5.toNat) (h6 : 48 ≤ c6.toNat) (h7 : 48 ≤ c7.toNat) :
    (((((((((c0.toNat - 48 : Nat) * 10 + (c1.toNat - 48)) * 10 + (c2.toNat - 48)) * 10 + (c3.toNat - 48)) * 10 + (c4.toNat - 48)) * 10 + (c5.toNat - 48)) * 10 + (c6.toNat - 48)) * 10 + (c7.toNat - 48) : Nat) : Int) =
      ((((((((c0 - 48) * 10 + (c1 - 48)) * 10 + (c2 - 48)) * 10 + (c3 - 48)) * 10 + (c4 - 48)) * 10 + (c5 - 48)) * 10 + (c6 - 48)) * 10 + (c7 - 48)) := by
  omega

section
variable {s : ByteArray} {bs : Int} {lim : Nat} {z p0 : Bool} {d0 : Int} {first i : Nat} {x : Int} {n : Nat} {nInt : Int} {tr : Bool}

/-- A decimal digit while there is room. -/
theorem Mn.dec (h : Mn s 10 lim z p0 d0 first i x n nInt tr) (e : Ef s 10 p0 first) (j m : Nat) (hj : j = i + 1) (hm : m = n + 1) (hi : i < s.size) (hn : n < lim) (hc : 48 ≤ byteI s i ∧ byteI s i ≤ 57) : Mn s 10 lim z p0 d0 first j (stepX 10 x (byteI s i - 48)) m nInt tr := by
  subst hj; subst hm
  have := h.digit e hi (by rw [dvU_dec _ hc]; omega)
  rwa [if_pos hn, if_pos hn, dvU_dec _ hc] at this

theorem Mn.eight (h : Mn s 10 lim z p0 d0 first i x n nInt tr) (e : Ef s 10 p0 first) (hi : i + 8 ≤ s.size) (hn : n + 8 ≤ lim)
    (hw : isEightF ((w8 (byteI s i).toNat (byteI s (i + 1)).toNat (byteI s (i + 2)).toNat (byteI s (i + 3)).toNat (byteI s (i + 4)).toNat (byteI s (i + 5)).toNat (byteI s (i + 6)).toNat (byteI s (i + 7)).toNat : Nat) : Int) = true) :
    Mn s 10 lim z p0 d0 first (i + 8) (IntKind.u64.wrap (IntKind.u64.wrap (x * 100000000) + valF ((w8 (byteI s i).toNat (byteI s (i + 1)).toNat (byteI s (i + 2)).toNat (byteI s (i + 3)).toNat (byteI s (i + 4)).toNat (byteI s (i + 5)).toNat (byteI s (i + 6)).toNat (byteI s (i + 7)).toNat : Nat) : Int))) (n + 8) nInt tr := by
  have hlt : ∀ k, (byteI s k).toNat < 256 := fun k => by have := byteI_lt s k; omega
  obtain ⟨g0, g1, g2, g3, g4, g5, g6, g7⟩ := isEight_iff _ _ _ _ _ _ _ _ (hlt _) (hlt _) (hlt _) (hlt _) (hlt _) (hlt _) (hlt _) (hlt _) hw
  rw [val_eq _ _ _ _ _ _ _ _ g0 g1 g2 g3 g4 g5 g6 g7]
  have h1 := h.dec e (i + 1) (n + 1) rfl rfl (by omega) (by omega) (by omega)
  have h2 := h1.dec e (i + 2) (n + 2) rfl rfl (by omega) (by omega) (by omega)
  have h3 := h2.dec e (i + 3) (n + 3) rfl rfl (by omega) (by omega) (by omega)
  have h4 := h3.dec e (i + 4) (n + 4) rfl rfl (by omega) (by omega) (by omega)
  have h5 := h4.dec e (i + 5) (n + 5) rfl rfl (by omega) (by omega) (by omega)
  have h6 := h5.dec e (i + 6) (n + 6) rfl rfl (by omega) (by omega) (by omega)
  have h7 := h6.dec e (i + 7) (n + 7) rfl rfl (by omega) (by omega) (by omega)
  have h8 := h7.dec e (i + 8) (n + 8) rfl rfl (by omega) (by omega) (by omega)
  rw [stepX_eight] at h8
  have ev := nat_int_eight (byteI s i) (byteI s (i + 1)) (byteI s (i + 2)) (byteI s (i + 3)) (byteI s (i + 4)) (byteI s (i + 5)) (byteI s (i + 6)) (byteI s (i + 7)) g0.1 g1.1 g2.1 g3.1 g4.1 g5.1 g6.1 g7.1
  rw [ev]
  exact h8

end

/-! ### The text that was read -/
theorem size_prefix (s : ByteArray) (i : Nat) (h : i ≤ s.size) : (s.extract 0 i).size = i := by
  rw [ByteArray.size_extract]
  omega

theorem byteI_prefix (s : ByteArray) (i k : Nat) (h : i ≤ s.size) (hk : k < i) : byteI (s.extract 0 i) k = byteI s k := by
  have h1 : k < (s.extract 0 i).size := by rw [size_prefix s i h]; exact hk
  rw [← byteI_eq _ k h1, ← byteI_eq s k (by omega)]
  congr 2
  rw [ByteArray.getElem_extract]
  congr 1
  omega

theorem isDI_prefix (s : ByteArray) (bs : Int) (i : Nat) (j : Int) (h : i ≤ s.size) (hj : j < (i : Int)) : isDI (s.extract 0 i) bs j = isDI s bs j := by
  by_cases h0 : j < 0
  · rw [isDI_out _ _ _ (.inl h0), isDI_out _ _ _ (.inl h0)]
  · obtain ⟨k, rfl⟩ : ∃ k : Nat, j = (k : Int) := ⟨j.toNat, by omega⟩
    rw [isDI_in _ _ k (by rw [size_prefix s i h]; omega), isDI_in _ _ k (by omega), byteI_prefix s i k h (by omega)]

theorem us_prefix (s : ByteArray) (bs : Int) (i k : Nat) (h : i ≤ s.size) (hk : k < i) (hn : isDI s bs (i : Int) = false) : us (s.extract 0 i) bs k = us s bs k := by
  unfold us
  rw [isDI_prefix s bs i _ h (by omega)]
  by_cases hk1 : k + 1 < i
  · rw [isDI_prefix s bs i _ h (by omega)]
  · have e : (k : Int) + 1 = (i : Int) := by omega
    rw [e, hn, isDI_out (s.extract 0 i) bs (i : Int) (.inr (by rw [size_prefix s i h]; omega))]

theorem Ends.noDigit {s : ByteArray} {bs : Int} {lim i : Nat} {st : St} (h : Ends s bs lim i st) : isDI s bs (i : Int) = false := by
  rcases h.stop with e | e
  · exact isDI_out _ _ _ (.inr (by omega))
  · by_cases hi : i < s.size
    · rw [isDI_in _ _ _ hi]
      by_cases hd : dvU (byteI s i) < bs
      · unfold step at e
        rw [if_pos hd] at e
        cases e
      · simp [hd]
    · exact isDI_out _ _ _ (.inr (by omega))

/-- THE PLAIN LAW: the text that was read, read again. -/
theorem Ends.again {s : ByteArray} {bs : Int} {lim i : Nat} {st : St} (h : Ends s bs lim i st) : Ends (s.extract 0 i) bs lim i st := by
  have hn := h.noDigit
  have hr : ∀ k, k ≤ i → run (s.extract 0 i) bs lim k = run s bs lim k := by
    intro k
    induction k with
    | zero => intro _; rfl
    | succ k ih =>
      intro hk
      show (run _ bs lim k).bind _ = (run s bs lim k).bind _
      rw [ih (by omega)]
      congr 1
      funext st'
      unfold step
      rw [byteI_prefix s i k h.le (by omega), us_prefix s bs i k h.le (by omega) hn]
  exact ⟨by rw [hr i (Nat.le_refl _)]; exact h.ran, by rw [size_prefix s i h.le]; exact Nat.le_refl _, .inl (size_prefix s i h.le).symm⟩

end Go.Proofs.Ybulkcdui.LawC
