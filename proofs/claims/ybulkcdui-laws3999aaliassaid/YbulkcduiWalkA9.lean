import Derived.Test.YbulkcduiWalkA8
namespace Go.Proofs.Ybulkcdui
open Go.RowKit
namespace LawA

theorem modPart_length (ds : List Int) (dp prec : Int) (hd : dp ≤ 400) (hd0 : -400 ≤ dp) (hl : ds.length ≤ 1024) (hp : prec ≤ 400) : (modPart ds dp prec).length ≤ 1825 := by
  rw [← app_eq_mod]
  unfold appPart
  rw [List.length_append]
  have h1 := intPart_length ds dp hd
  have h2 := fracPart_length ds dp (precOf ds.length dp prec)
  have h3 : precOf ds.length dp prec ≤ 1424 := by unfold precOf; split <;> omega
  omega

/-- The buffer behind the two copies. -/
theorem splice_two (M : Nat) (dl ds : List Int) : splice (splice (zcells (dl.length + M + ds.length)) 0 (cells dl)) (dl.length + M) (cells ds) = cells (dl ++ List.replicate M 0 ++ ds) := by
  unfold splice
  rw [List.take_zero, List.nil_append, Nat.zero_add, cells_length, cells_length]
  have e1 : (zcells (dl.length + M + ds.length)).drop dl.length = cells (List.replicate M 0) ++ zcells ds.length := by
    unfold zcells cells
    rw [List.drop_replicate, List.map_replicate, List.replicate_append_replicate]
    congr 1
    omega
  have e2 : cells dl ++ (zcells (dl.length + M + ds.length)).drop dl.length = cells (dl ++ List.replicate M 0) ++ zcells ds.length := by rw [e1, ← List.append_assoc, ← cells_append]
  rw [e2, List.take_append_of_le_length (by rw [cells_length, List.length_append, List.length_replicate]; exact Nat.le_refl _), List.take_of_length_le (by rw [cells_length, List.length_append, List.length_replicate]; exact Nat.le_refl _),
    List.drop_eq_nil_of_le (by rw [List.length_append, cells_length, List.length_append, List.length_replicate]; unfold zcells; rw [List.length_replicate]; exact Nat.le_refl _), List.append_nil, ← cells_append]

theorem came_buf {w : World} {g M : Nat} {dl ds : List Int} {len0 N : Nat} (h : w.heap[g]? = some (.cells (cells (dl ++ List.replicate M 0 ++ ds)).toArray 5 (0, 0))) (hn : dl.length = len0) (hN : N = len0 + M + ds.length) : Came w 1 (some ⟨g, 0, none⟩) g 0 len0 N (cells dl) := by
  subst hN; subst hn
  refine ⟨by omega, fun _ => rfl, fun _ => (Array.getElem?_eq_some_iff.1 h).1, by rw [cells_length]; omega, fun j u hu => ?_, fun j hj => ⟨?_, frozen_of_row h _⟩⟩
  · rw [Nat.zero_add, cell_of_row h, cells_append, cells_append, List.append_assoc, List.getElem?_append_left (List.getElem?_eq_some_iff.1 hu).1, hu]
  · rw [cell_of_row h, List.getElem?_eq_getElem (by rw [cells_length]; simp only [List.length_append, List.length_replicate]; omega)]
    rfl

theorem reads_buf {w : World} {g M : Nat} {dl ds : List Int} {len0 len1 off c : Nat} {A : Option Addr} (h : w.heap[g]? = some (.cells (cells (dl ++ List.replicate M 0 ++ ds)).toArray 5 (0, 0))) (hn : dl.length = len0) (hd : ds.length = len1) (ho : off = len0 + M) (hc : len1 ≤ c) (hA : 0 < len1 → A = some ⟨g, off, none⟩) :
    Reads w A g off len1 c ds := by
  subst ho; subst hn; subst hd
  refine ⟨rfl, hc, hA, fun i hi => ?_⟩
  rw [cell_of_row h, cells_append, List.getElem?_append_right (by rw [cells_length, List.length_append, List.length_replicate]; omega), cells_length, List.length_append, List.length_replicate, Nat.add_sub_cancel_left]
  unfold cells
  rw [List.getElem?_map, List.getD_eq_getElem?_getD, List.getElem?_eq_getElem hi]
  rfl

/-- What is read does not lie where is written. -/
def Apart (xb b xo off len xl N : Nat) : Prop := ∀ j t, j < xl → t < N → ¬ (xb = b ∧ xo + j = off + len + t)

set_option maxHeartbeats 1600000 in
theorem alias_in (a0 : Option Addr) (b0 o0 len0 cap0 : Nat) (dst : List Int) (a1 : Option Addr) (b1 o1 len1 cap1 : Nat) (ds : List Int) (dp prec : Int) (w : World) (h0 : Reads w a0 b0 o0 len0 cap0 dst) (h1 : Reads w a1 b1 o1 len1 cap1 ds)
    (hl0 : len0 ≤ 1024) (hl1 : len1 ≤ 1024) (hd0 : -400 ≤ dp) (hd1 : dp ≤ 400) (hp : prec ≤ 400) (hp0 : -9223372036854775808 ≤ prec) :
    Calls Yba.prog 4 #[.slice a0 len0 cap0, .slice a1 len1 cap1, .int .i64 dp, .int .i64 prec] w fun e w' => e = .returned (.bool true) ∧ Since w.heap.size w w' := by
  have HL0 : Hid (dst.length = len0) := h0.len_eq
  have HL1 : Hid (ds.length = len1) := h1.len_eq
  have hb0 : 0 < len0 → b0 < w.heap.size := fun h => h0.lt h
  have hb1 : 0 < len1 → b1 < w.heap.size := fun h => h1.lt h
  obtain ⟨M, hM⟩ : ∃ M, (modPart ds dp prec).length = M := ⟨_, rfl⟩
  have hMb : M ≤ 1825 := by rw [← hM]; exact modPart_length ds dp prec hd1 hd0 (by rw [HL1.out]; exact hl1) hp
  have HM : Hid ((modPart ds dp prec).length = M) := hM
  have HMa : Hid ((appPart ds dp prec).length = M) := by show _ = _; rw [app_eq_mod]; exact hM
  have k9 := amodel_any w _ _ _ _ _ _ h0 _ _ _ _ _ _ h1 dp prec (by omega) (by omega) (by omega) (by omega) (by omega) (by omega)
  rw [hM] at k9
  clear hM
  go_enter Yba.func4, Yba.ntmps4
  go_upto_region 4 with (go_at_call 9; refine k9.mono ?_; rintro e w1 ⟨v1, rfl, am, bm, om, cm, hv1, hwant, hbm, hs1⟩; subst hv1)
  clear k9
  go_cut [10] (fun g wx => g = .int .i64 (M : Int) ∧ w1 = wx)
  case first =>
    go_wp2_with fail
    go_meet
    case rel => exact ⟨by go_num, rfl⟩
  case rest =>
  obtain ⟨rfl, rfl⟩ := hcut
  go_upto_region 5 with fail
  go_cut [11] (fun g wx => g = .int .i64 ((len0 + M : Nat) : Int) ∧ w1 = wx)
  case first =>
    go_wp2_with fail
    go_meet
    case rel => exact ⟨by go_num, rfl⟩
  case rest =>
  obtain ⟨rfl, rfl⟩ := hcut
  obtain ⟨OFF, hOFF⟩ : ∃ OFF, OFF = len0 + M := ⟨_, rfl⟩
  rw [← hOFF]
  have HO : Hid (OFF = len0 + M) := hOFF
  have hOb : OFF ≤ 2849 := by omega
  have hO0 : len0 ≤ OFF := by omega
  clear hOFF
  have h0c : Reads w1 a0 b0 o0 len0 cap0 dst := h0.since hs1 hb0
  have h1c : Reads w1 a1 b1 o1 len1 cap1 ds := h1.since hs1 hb1
  have hzc : w.heap.size ≤ w1.heap.size := hs1.size
  go_upto_region 7 with (at_make; refine wpList_make_bytes _ rfl _ _ rfl _ _ _ _ (OFF + len1) (OFF + len1) rfl rfl (by omega) (by omega) (Nat.le_refl _) (by omega) ?_; intro W2 hW2 hsz2 hbel2)
  have hs2 : Since w1.heap.size w1 W2 := Since.of_below hbel2
  have h02 : Reads W2 a0 b0 o0 len0 cap0 dst := h0.since (hs1.trans (hs2.mono hzc)) hb0
  clear hbel2
  go_upto_region 8 with (refine wpList_copy_splice rfl (.tmp 54) (.tmp 55) 22 22 rfl 5 Yba.underlying22 Yba.size5 _ _ _ _ _ _ rfl rfl w1.heap.size 0 (zcells (OFF + len1)) 5 hW2 (cells dst) (by rw [cells_length, HL0.out]; show _ = min _ _; omega) (fun hp => ⟨rfl, copy_src h02 hp⟩) (by rw [cells_length, HL0.out]; unfold zcells; rw [List.length_replicate]; omega) (cells_oneCell _) w1.heap.size W2 (Below.refl _ _) (Nat.le_refl _) ?_; intro w3 hrow3 hbel3)
  have hs3 : Since w1.heap.size w1 w3 := hs2.trans (Since.of_below hbel3)
  have h13 : Reads w3 a1 b1 o1 len1 cap1 ds := h1.since (hs1.trans (hs3.mono hzc)) hb1
  have hz3 : w1.heap.size < w3.heap.size := by have := hbel3.size; omega
  clear hbel3 hW2 hsz2 h02
  simp only [Act.put, List.setIfInBounds_toArray, List.set_cons_succ, List.set_cons_zero]
  go_cut [] (fun wx => Hid (wx.heap[w1.heap.size]? = some (.cells (cells (dst ++ List.replicate M 0 ++ ds)).toArray 5 (0, 0))) ∧ Since w1.heap.size w1 wx)
  case first =>
    have HR : Hid (splice (splice (zcells (OFF + len1)) 0 (cells dst)) OFF (cells ds) = cells (dst ++ List.replicate M 0 ++ ds)) := by
      show _ = _
      have := splice_two M dst ds
      rwa [HL0.out, HL1.out, ← HO.out] at this
    by_cases hl : len1 = 0
    · subst hl
      go_wp2_with (refine wpList_copy_splice rfl (.tmp 59) (.tmp 60) 22 22 rfl 5 Yba.underlying22 Yba.size5 _ _ _ _ _ _ rfl rfl w1.heap.size OFF (splice (zcells (OFF + 0)) 0 (cells dst)) 5 hrow3.out (cells ds) (by rw [cells_length, HL1.out]; show _ = min _ _; omega) (fun hp => absurd hp (by rw [cells_length, HL1.out]; omega)) (by rw [length_splice _ _ _ (by rw [cells_length, HL0.out]; unfold zcells; rw [List.length_replicate]; omega), cells_length, HL1.out]; unfold zcells; rw [List.length_replicate]; omega) (cells_oneCell _) w1.heap.size w3 (Below.refl _ _) (Nat.le_refl _) ?_; intro w4 hrow4 hbel4)
      simp only [Act.put, List.setIfInBounds_toArray, List.set_cons_succ, List.set_cons_zero]
      go_meet
      case rel => exact ⟨by rw [HR.out] at hrow4; exact hrow4, hs3.trans (Since.of_below hbel4)⟩
    · have hcl : ¬ OFF + len1 = OFF := by omega
      go_wp2_with (refine wpList_copy_splice rfl (.tmp 59) (.tmp 60) 22 22 rfl 5 Yba.underlying22 Yba.size5 _ _ _ _ _ _ rfl rfl w1.heap.size OFF (splice (zcells (OFF + len1)) 0 (cells dst)) 5 hrow3.out (cells ds) (by rw [cells_length, HL1.out]; show _ = min _ _; omega) (fun hp => ⟨by simp, copy_src h13 hp⟩) (by rw [length_splice _ _ _ (by rw [cells_length, HL0.out]; unfold zcells; rw [List.length_replicate]; omega), cells_length, HL1.out]; unfold zcells; rw [List.length_replicate]; omega) (cells_oneCell _) w1.heap.size w3 (Below.refl _ _) (Nat.le_refl _) ?_; intro w4 hrow4 hbel4)
      simp only [Act.put, List.setIfInBounds_toArray, List.set_cons_succ, List.set_cons_zero]
      go_meet
      case rel => exact ⟨by rw [HR.out] at hrow4; exact hrow4, hs3.trans (Since.of_below hbel4)⟩
  case rest =>
  obtain ⟨HR4, hs4⟩ := hcut
  clear hrow3 hs3 h13 hs2 h0c h1c
  go_upto_region 9 with fail
  go_cut [13] (fun g wx => wc = wx ∧ ∃ A, g = .slice A len1 len1 ∧ (0 < len1 → A = some ⟨w1.heap.size, OFF, none⟩))
  case first =>
    by_cases hl : len1 = 0
    · subst hl
      go_wp2_with fail
      go_meet
      case rel => exact ⟨rfl, _, by congr 1 <;> omega, fun h => absurd h (by omega)⟩
    · have hcl : ¬ OFF + len1 = OFF := by omega
      go_wp2_with fail
      go_meet
      case rel => exact ⟨rfl, _, by congr 1 <;> omega, fun _ => by simp⟩
  case rest =>
  obtain ⟨rfl, A, rfl, hA⟩ := hcut
  have hc4 : Came wc 1 (some ⟨w1.heap.size, 0, none⟩) w1.heap.size 0 len0 (OFF + len1) (cells dst) := came_buf HR4.out HL0.out (by rw [HL1.out, HO.out])
  have hg4 : Reads wc A w1.heap.size OFF len1 len1 ds := reads_buf HR4.out HL0.out HL1.out HO.out (Nat.le_refl _) hA
  have hapart : Apart w1.heap.size w1.heap.size OFF 0 len0 len1 (appPart ds dp prec).length := fun j t _ ht h => by
    have e1 := HMa.out
    have e2 := HO.out
    omega
  have hapos := appPart_pos ds dp prec
  have hB4 : w1.heap.size ≤ wc.heap.size := hs4.size
  go_upto_region 11 with (go_at_call 8; refine (appendF_any _ _ _ _ _ _ _ hc4 _ _ _ _ _ _ hg4 _ _ hapart (by omega) (by omega) (by omega) (by omega) (by omega) (by omega) (by omega)).mono ?_; rintro e w5 ⟨v5, rfl, r5, hup5⟩; obtain ⟨ag, bg, og, cg, hv5, hgot, hbg⟩ := reads_of_upon hc4 hup5 (.inr hapos); subst hv5)
  have hs45 : Since w1.heap.size wc w5 := Since.of_upon hup5 (Nat.le_refl _) hB4
  have hs15 : Since w1.heap.size w1 w5 := hs4.trans hs45
  have hs05 : Since w.heap.size w w5 := hs1.trans (hs15.mono hzc)
  have h15 : Reads w5 a1 b1 o1 len1 cap1 ds := h1.since hs05 hb1
  have hg5 : Reads w5 A w1.heap.size OFF len1 len1 ds := reads_upon hg4 hup5 hapart (Nat.le_refl _)
  have hw5 := hwant.since hs15 (fun h => hwant.lt h)
  rw [← HO.out] at hw5
  have HE : Hid (dst ++ appPart ds dp prec = dst ++ modPart ds dp prec) := by show _ = _; rw [app_eq_mod]
  clear hup5 hc4 hg4 hwant hapart HR4
  go_wp2_with (first | (go_at_call_of 10 am; refine (equal_same hgot hw5 HE.out).mono ?_; rintro e w7 ⟨rfl, hw7⟩; subst hw7) | (go_at_call_of 10 a1; refine (equal_same hg5 h15 rfl).mono ?_; rintro e w8 ⟨rfl, hw8⟩; subst hw8))
  go_ret
  exact ⟨rfl, hs05⟩

set_option maxHeartbeats 400000 in
theorem alias_out (a0 : Option Addr) (len0 cap0 : Nat) (a1 : Option Addr) (len1 cap1 : Nat) (dp prec : Int) (w : World) (h : 1024 < len0 ∨ 1024 < len1 ∨ dp < -400 ∨ 400 < dp ∨ 400 < prec) :
    Calls Yba.prog 4 #[.slice a0 len0 cap0, .slice a1 len1 cap1, .int .i64 dp, .int .i64 prec] w fun e w' => e = .returned (.bool true) ∧ w' = w := by
  by_cases g1 : (1024 : Int) < (len0 : Int)
  · clear h
    go_enter Yba.func4, Yba.ntmps4
    go_wp2
    go_ret
    exact ⟨rfl, rfl⟩
  · by_cases g2 : (1024 : Int) < (len1 : Int)
    · clear h
      go_enter Yba.func4, Yba.ntmps4
      go_wp2
      go_ret
      exact ⟨rfl, rfl⟩
    · by_cases g3 : dp < -400
      · clear h
        go_enter Yba.func4, Yba.ntmps4
        go_wp2
        go_ret
        exact ⟨rfl, rfl⟩
      · by_cases g4 : 400 < dp
        · clear h
          go_enter Yba.func4, Yba.ntmps4
          go_wp2
          go_ret
          exact ⟨rfl, rfl⟩
        · have g5 : 400 < prec := by omega
          clear h
          go_enter Yba.func4, Yba.ntmps4
          go_wp2
          go_ret
          exact ⟨rfl, rfl⟩

theorem alias_walk (a0 : Option Addr) (len0 cap0 : Nat) (z0 : List Int) (a1 : Option Addr) (len1 cap1 : Nat) (z1 : List Int) (a2 : Int) (a3 : Int) (w : World) (w0 : IsRow .u8 w a0 len0 cap0 z0) (w1 : IsRow .u8 w a1 len1 cap1 z1) (w3 : (Lit.int .i64 a3).wf = true) :
    Calls Yba.prog 4 #[.slice a0 len0 cap0, .slice a1 len1 cap1, .int .i64 a2, .int .i64 a3] w fun e w' => e = .returned (.bool true) ∧ Since w.heap.size w w' := by
  by_cases h : 1024 < len0 ∨ 1024 < len1 ∨ a2 < -400 ∨ 400 < a2 ∨ 400 < a3
  · refine (alias_out a0 len0 cap0 a1 len1 cap1 a2 a3 w h).mono fun e w' ⟨he, hw⟩ => ⟨he, ?_⟩
    rw [hw]
    exact Since.refl _ _
  · obtain ⟨b0, o0, r0⟩ := isRow_reads w0
    obtain ⟨b1, o1, r1⟩ := isRow_reads w1
    exact alias_in a0 b0 o0 len0 cap0 _ a1 b1 o1 len1 cap1 _ a2 a3 w r0 r1 (by omega) (by omega) (by omega) (by omega) (by omega) (wf_i64 w3).1

end LawA
end Go.Proofs.Ybulkcdui
