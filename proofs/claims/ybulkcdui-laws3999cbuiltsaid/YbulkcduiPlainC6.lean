/- The byte-by-byte model's own steps. No walk. -/
import Derived.Test.YbulkcduiPlainC5
namespace Go.Proofs.Ybulkcdui.LawC

/-- What the model knows where its loop stands. -/
structure Md (s : ByteArray) (bs : Int) (lim k : Nat) (st : St) : Prop where
  ran : run s bs lim k = some st
  le : k ≤ s.size
  nle : st.n ≤ k
  dlo : -(k : Int) ≤ st.dp
  dhi : st.dp ≤ (k : Int)
  off : st.started = false → st.first = -1 ∧ st.n = 0
  on : st.started = true → 0 ≤ st.first ∧ st.first ≤ (k : Int)

theorem Md.begin (s : ByteArray) (bs : Int) (lim : Nat) : Md s bs lim 0 stInit := ⟨rfl, Nat.zero_le _, Nat.le_refl _, by show -((0 : Nat) : Int) ≤ 0; omega, by show (0 : Int) ≤ ((0 : Nat) : Int); omega, fun _ => ⟨rfl, rfl⟩, fun h => by cases h⟩

section
variable {s : ByteArray} {bs : Int} {lim k : Nat} {st : St}

theorem Md.digit (h : Md s bs lim k st) (hk : k < s.size) (hd : dvU (byteI s k) < bs) : Md s bs lim (k + 1) (digSt bs lim k (dvU (byteI s k)) st) := by
  have h1 := h.nle
  have h2 := h.dlo
  have h3 := h.dhi
  have hr : run s bs lim (k + 1) = some (digSt bs lim k (dvU (byteI s k)) st) := by
    refine run_next h.ran ?_
    unfold step
    rw [if_pos hd]
  refine ⟨hr, by omega, ?_, ?_, ?_, ?_, ?_⟩
  · unfold digSt
    split
    · show st.n ≤ k + 1; omega
    · show st.n + 1 ≤ k + 1; omega
  · unfold digSt
    split
    · show -((k + 1 : Nat) : Int) ≤ (if st.point then st.dp - 1 else st.dp); split <;> omega
    · show -((k + 1 : Nat) : Int) ≤ (if st.point then st.dp else st.dp + 1); split <;> omega
  · unfold digSt
    split
    · show (if st.point then st.dp - 1 else st.dp) ≤ ((k + 1 : Nat) : Int); split <;> omega
    · show (if st.point then st.dp else st.dp + 1) ≤ ((k + 1 : Nat) : Int); split <;> omega
  · unfold digSt
    split
    · exact fun hs => h.off hs
    · intro hs
      cases hs
  · unfold digSt
    split
    · intro hs
      have := h.on hs
      show 0 ≤ st.first ∧ st.first ≤ ((k + 1 : Nat) : Int)
      omega
    · intro _
      show 0 ≤ (if st.started then st.first else (k : Int)) ∧ (if st.started then st.first else (k : Int)) ≤ ((k + 1 : Nat) : Int)
      cases hs : st.started with
      | true => have := h.on hs; simp only [if_true]; omega
      | false => simp; omega

theorem Md.more {st' : St} (h : Md s bs lim k st) (hk : k < s.size) (hs : step s bs lim k st = some st') (hn : st'.n = st.n) (hd : st'.dp = st.dp) (hst : st'.started = st.started) (hf : st'.first = st.first) : Md s bs lim (k + 1) st' := by
  have h1 := h.nle
  have h2 := h.dlo
  have h3 := h.dhi
  exact ⟨run_next h.ran hs, by omega, by omega, by omega, by omega, fun e => by rw [hn, hf]; exact h.off (hst ▸ e), fun e => by have := h.on (hst ▸ e); omega⟩

end

section
variable {s : ByteArray} {bs : Int} {lim k : Nat} {pt sd zr tr : Bool} {dp : Int} {n : Nat} {fi x : Int}

theorem Md.dot (h : Md s bs lim k ⟨false, sd, zr, tr, dp, n, fi, x⟩) (hk : k < s.size) (hd : ¬ dvU (byteI s k) < bs) (hc : byteI s k = 46) : Md s bs lim (k + 1) ⟨true, sd, zr, tr, dp, n, fi, x⟩ := by
  refine h.more hk ?_ rfl rfl rfl rfl
  unfold step
  rw [if_neg hd, if_pos ⟨hc, rfl⟩]

theorem Md.uscore (h : Md s bs lim k ⟨pt, sd, zr, tr, dp, n, fi, x⟩) (hk : k < s.size) (hd : ¬ dvU (byteI s k) < bs) (hc : byteI s k = 95) (hu : us s bs k = true) : Md s bs lim (k + 1) ⟨pt, sd, zr, tr, dp, n, fi, x⟩ := by
  refine h.more hk ?_ rfl rfl rfl rfl
  unfold step
  rw [if_neg hd, hc, if_neg (by simp), if_pos ⟨rfl, hu⟩]

theorem Md.stop (h : Md s bs lim k ⟨pt, sd, zr, tr, dp, n, fi, x⟩) (hd : ¬ dvU (byteI s k) < bs) (h1 : byteI s k = 46 → pt = true) (h2 : byteI s k = 95 → us s bs k = false) : Ends s bs lim k ⟨pt, sd, zr, tr, dp, n, fi, x⟩ := by
  refine ⟨h.ran, h.le, .inr ?_⟩
  unfold step
  rw [if_neg hd, if_neg (by
    rintro ⟨a, b⟩
    rw [show pt = false from b] at h1
    exact absurd (h1 a) (by simp)), if_neg (by
    rintro ⟨a, b⟩
    rw [h2 a] at b
    cases b)]

theorem Md.full (h : Md s bs lim k ⟨pt, sd, zr, tr, dp, n, fi, x⟩) (hk : k = s.size) : Ends s bs lim k ⟨pt, sd, zr, tr, dp, n, fi, x⟩ := ⟨h.ran, h.le, .inl hk⟩

theorem digSt_zero (v : Int) (hv : v = 0) : digSt bs lim k v ⟨pt, false, zr, tr, dp, n, fi, x⟩ = ⟨pt, false, true, tr, if pt then dp - 1 else dp, n, fi, x⟩ := by
  unfold digSt
  rw [if_pos ⟨rfl, hv⟩]

theorem digSt_lt (v : Int) (h : sd = true ∨ v ≠ 0) (hn : n < lim) : digSt bs lim k v ⟨pt, sd, zr, tr, dp, n, fi, x⟩ = ⟨pt, true, zr, tr, if pt then dp else dp + 1, n + 1, if sd then fi else (k : Int), stepX bs x v⟩ := by
  unfold digSt
  rw [if_neg (by
    rintro ⟨a, b⟩
    rcases h with h | h
    · rw [show sd = false from a] at h; cases h
    · exact h b)]
  simp only [if_pos hn]

theorem digSt_ge (v : Int) (h : sd = true ∨ v ≠ 0) (hn : ¬ n < lim) : digSt bs lim k v ⟨pt, sd, zr, tr, dp, n, fi, x⟩ = ⟨pt, true, zr, tr || v != 0, if pt then dp else dp + 1, n + 1, if sd then fi else (k : Int), x⟩ := by
  unfold digSt
  rw [if_neg (by
    rintro ⟨a, b⟩
    rcases h with h | h
    · rw [show sd = false from a] at h; cases h
    · exact h b)]
  simp only [if_neg hn]

end

end Go.Proofs.Ybulkcdui.LawC
