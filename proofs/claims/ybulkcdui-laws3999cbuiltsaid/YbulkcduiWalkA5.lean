import Derived.Test.YbulkcduiWalkA4
namespace Go.Proofs.Ybulkcdui
open Go.RowKit
namespace LawA

theorem came_made {w W1 : World} {n ln : Nat} (h : W1.heap[w.heap.size]? = some (.cells (zcells n).toArray 5 (0, 0))) (hs : W1.heap.size = w.heap.size + 1) (hle : ln ≤ n) : Came W1 1 (some ⟨w.heap.size, 0, none⟩) w.heap.size 0 ln n (cells (List.replicate ln 0)) := by
  refine ⟨hle, fun _ => rfl, fun _ => by omega, by rw [cells_length, List.length_replicate, Nat.mul_one], fun j u hu => ?_, fun j hj => ⟨?_, frozen_of_row h _⟩⟩
  · have hj : j < ln := by
      have := (List.getElem?_eq_some_iff.1 hu).1
      rwa [cells_length, List.length_replicate] at this
    rw [Nat.zero_add, cell_of_row h, ← hu]
    unfold zcells cells
    rw [List.map_replicate, List.getElem?_replicate, List.getElem?_replicate, if_pos hj, if_pos (by omega)]
  · rw [cell_of_row h]
    unfold zcells
    rw [List.getElem?_replicate, if_pos (by omega)]
    rfl

theorem intModel_neg (ds : List Int) (dp : Int) (h : dp ≤ 0) : intModel ds dp = [48] := by unfold intModel; rw [if_pos h]
theorem intModel_pos (ds : List Int) (d : Nat) (h : 0 < d) : intModel ds (d : Int) = places ds 0 d := by unfold intModel; rw [if_neg (by omega)]; rfl
theorem places_succ (ds : List Int) (p : Int) (k : Nat) : places ds p (k + 1) = places ds p k ++ [digAt ds (p + (k : Int))] := rfl

theorem fin_upon {w W1 w2 : World} {cap m r : Nat} {l : List Int} {v : Value} (hc : Came W1 1 (some ⟨w.heap.size, 0, none⟩) w.heap.size 0 0 cap (cells [])) (hup : Upon W1 5 1 (some ⟨w.heap.size, 0, none⟩) w.heap.size 0 0 cap (cells []) w2 v m (cells l) r)
    (hsz : W1.heap.size = w.heap.size + 1) (hs : Since w.heap.size w W1) (hcap : 0 < cap) :
    ∃ a' b' o' cap', v = .slice a' m cap' ∧ Reads w2 a' b' o' m cap' l ∧ w.heap.size ≤ b' ∧ Since w.heap.size w w2 := by
  obtain ⟨a', b', o', cap', hv, hr, hb⟩ := reads_of_upon hc hup (.inl hcap)
  simp only [Nat.zero_add, List.nil_append] at hv hr
  exact ⟨a', b', o', cap', hv, hr, by omega, hs.trans (Since.of_upon hup (Nat.le_refl _) (by omega))⟩

set_option maxHeartbeats 1600000 in
theorem amodel_any (w : World) (da : Option Addr) (db dof dlen dcap : Nat) (dst : List Int) (hd : Reads w da db dof dlen dcap dst)
    (xa : Option Addr) (xb xo xl xc : Nat) (ds : List Int) (hr : Reads w xa xb xo xl xc ds) (dp prec : Int)
    (hlen : dlen ≤ 1024) (hxl : xl ≤ 1024) (hd0 : -400 ≤ dp) (hd1 : dp ≤ 400) (hp : prec ≤ 400) (hp0 : -9223372036854775808 ≤ prec) :
    Calls Yba.prog 9 #[.slice da dlen dcap, .slice xa xl xc, .int .i64 dp, .int .i64 prec] w fun e w' => ∃ v', e = .returned v' ∧ ∃ a' b' o' cap', v' = .slice a' (dlen + (modPart ds dp prec).length) cap' ∧
      Reads w' a' b' o' (dlen + (modPart ds dp prec).length) cap' (dst ++ modPart ds dp prec) ∧ w.heap.size ≤ b' ∧ Since w.heap.size w w' := by
  obtain ⟨i0, hi, hz0, hz1, hz2⟩ := info_parts Yba.info5
  have HX : Hid (ds.length = xl) := hr.len_eq
  have HD : Hid (dst.length = dlen) := hd.len_eq
  have hil : (intModel ds dp).length ≤ 400 := by rw [← int_eq]; exact intPart_length ds dp hd1
  go_enter Yba.func9, Yba.ntmps9
  go_upto_region 2 with (at_make; refine wpList_make_bytes _ rfl _ _ rfl _ _ _ _ 0 (dlen + 16) rfl rfl rfl (by omega) (by omega) (by omega) ?_; intro W1 hW1 hsz hbel)
  have hc := came_made hW1 hsz (ln := 0) (by omega)
  have hs1 : Since w.heap.size w W1 := Since.of_below hbel
  have hd1' : Reads W1 da db dof dlen dcap dst := hd.since hs1 (fun h => hd.lt h)
  have hr1 : Reads W1 xa xb xo xl xc ds := hr.since hs1 (fun h => hr.lt h)
  have hxb : 0 < xl → xb < w.heap.size := fun h => hr.lt h
  clear hW1 hbel
  have hap : ∀ j t, j < xl → t < 100000 → ¬ (xb = w.heap.size ∧ xo + j = 0 + 0 + t) := fun j t hj _ => by have := hxb (by omega); omega
  go_upto_if 20 with (at_builtin; refine wpList_append_upon _ rfl (.tmp 16) (.tmp 17) 22 22 rfl hc i0 (.int .u8 0) 1 Yba.underlying22 hi hz0 hz1 hz2 rfl rfl (Upon.start hc) _ dlen (cells dst) rfl (src_all hd1') (by unfold maxLen; omega) (by omega) ?_; intro v1 w1 hup1)
  go_cut [9] (fun v wx => ∃ r, Upon W1 5 1 (some ⟨w.heap.size, 0, none⟩) w.heap.size 0 0 (dlen + 16) (cells []) wx v (dlen + (intModel ds dp).length) (cells (dst ++ intModel ds dp)) r)
  case first =>
    by_cases h0 : dp ≤ 0
    · go_wp2_with (at_builtin; refine wpList_append_upon _ rfl (.tmp 21) (.tmp 22) 22 22 rfl hc i0 (.int .u8 0) 1 Yba.underlying22 hi hz0 hz1 hz2 rfl rfl (hup1.alloc hc _) _ 1 [.int .u8 48] rfl (src_one _ _) (by unfold maxLen; omega) (by omega) ?_)
      intro v' w' hup'
      go_wp2_with fail
      go_meet
      case rel =>
        refine ⟨_, upon_to hup' ?_ ?_⟩
        · rw [intModel_neg ds dp h0]; simp
        · rw [intModel_neg ds dp h0, cells_append]; rfl
    · obtain ⟨d, rfl⟩ : ∃ d : Nat, dp = (d : Int) := ⟨dp.toNat, by omega⟩
      have hdpos : 0 < d := by omega
      have HI := intModel_pos ds d hdpos
      have HIh : Hid (intModel ds (d : Int) = places ds 0 d) := HI
      clear HI
      go_wp2_with fail
      go_loopg [9, 10] d (fun g v c wr => ∃ j rr, g = d - j ∧ j ≤ d ∧ c = .int .i64 (j : Int) ∧ Upon W1 5 1 (some ⟨w.heap.size, 0, none⟩) w.heap.size 0 0 (dlen + 16) (cells []) wr v (dlen + j) (cells (dst ++ places ds 0 j)) rr)
      case atStart => exact ⟨0, _, rfl, Nat.zero_le _, rfl, upon_to hup1 (by simp) (by simp [places, cells])⟩
      case round =>
        obtain ⟨j, rr, hk, hj, rfl, hupr⟩ := hrel
        by_cases hlt : j < d
        · have hlt' : (j : Int) < (d : Int) := by omega
          have hrr : Reads wr xa xb xo xl xc ds := reads_upon hr1 hupr hap (by omega)
          go_wp2_with (first | (go_at_call 17; refine (at_any xa xb xo xl xc ds _ _ hrr (by omega)).mono ?_; rintro e w' ⟨rfl, hw'⟩; obtain rfl := hw') | (at_builtin; refine wpList_append_upon _ rfl (.tmp 29) (.tmp 33) 22 22 rfl hc i0 (.int .u8 0) 1 Yba.underlying22 hi hz0 hz1 hz2 rfl rfl (hupr.alloc hc _) _ 1 [.int .u8 (digAt ds (j : Int))] rfl (src_one _ _) (by unfold maxLen; omega) (by omega) ?_; intro v' w' hup'))
          go_roundg (d - (j + 1))
          case measure => omega
          case rel =>
            refine ⟨j + 1, Upon.next 0 (dlen + 16) 1 (dlen + j) rr 1, rfl, by omega, by go_num, upon_to hup' (by omega) ?_⟩
            rw [places_succ, Int.zero_add, ← List.append_assoc, cells_append _ [digAt ds (j : Int)]]
            rfl
        · obtain rfl : j = d := by omega
          go_wp2_with fail
          go_meet
          case rel =>
            refine ⟨rr, upon_to hupr ?_ ?_⟩
            · rw [HIh.out, places_length]
            · rw [HIh.out]
  case rest =>
    obtain ⟨r2, hup2⟩ := hcut
    clear hup1
    obtain ⟨pp, hpp⟩ : ∃ pp, pp = precOf ds.length dp prec := ⟨_, rfl⟩
    have hppb : pp ≤ 1424 := by rw [hpp]; unfold precOf; have := HX.out; split <;> omega
    have HP : Hid (pp = precOf ds.length dp prec) := hpp
    clear hpp
    go_upto_if 36 with fail
    go_cut [3] (fun p wx => p = .int .i64 pp ∧ wx = wc)
    case first =>
      by_cases hp0 : prec < 0
      · go_wp2_with fail
        go_meet
        case rel => refine ⟨?_, rfl⟩; rw [HP.out]; unfold precOf; rw [if_pos hp0, HX.out]
      · go_wp2_with fail
        go_meet
        case rel => refine ⟨?_, rfl⟩; rw [HP.out]; unfold precOf; rw [if_neg (by omega)]
    case rest =>
      obtain ⟨rfl, rfl⟩ := hcut
      have HA : Hid (modPart ds dp prec = intModel ds dp ++ fracModel ds dp pp) := by show _ = _; unfold modPart; rw [← HP.out]
      by_cases hpos : 0 < pp
      · obtain ⟨P, rfl⟩ : ∃ P : Nat, pp = (P : Int) := ⟨pp.toNat, by omega⟩
        have HF : Hid (fracModel ds dp (P : Int) = [46] ++ places ds dp P) := by show _ = _; unfold fracModel; rw [if_neg (by omega)]; rfl
        go_wp2_with (at_builtin; refine wpList_append_upon _ rfl (.tmp 43) (.tmp 44) 22 22 rfl hc i0 (.int .u8 0) 1 Yba.underlying22 hi hz0 hz1 hz2 rfl rfl (hup2.alloc hc _) _ 1 [.int .u8 46] rfl (src_one _ _) (by unfold maxLen; omega) (by omega) ?_)
        intro v3 w3 hup3
        go_wp2_with fail
        go_loopg [9, 11] P (fun g v c wr => ∃ j rr, g = P - j ∧ j ≤ P ∧ c = .int .i64 (j : Int) ∧ Upon W1 5 1 (some ⟨w.heap.size, 0, none⟩) w.heap.size 0 0 (dlen + 16) (cells []) wr v (dlen + (intModel ds dp).length + 1 + j) (cells (dst ++ intModel ds dp ++ [46] ++ places ds dp j)) rr)
        case atStart => exact ⟨0, _, rfl, Nat.zero_le _, rfl, upon_to hup3 (by simp) (by simp [places, cells])⟩
        case round =>
          obtain ⟨j, rr, hk, hj, rfl, hupr⟩ := hrel
          by_cases hlt : j < P
          · have hlt' : (j : Int) < (P : Int) := by omega
            have hrr : Reads wr xa xb xo xl xc ds := reads_upon hr1 hupr hap (by omega)
            go_wp2_with (first | (go_at_call 17; refine (at_any xa xb xo xl xc ds _ _ hrr (by omega)).mono ?_; rintro e w' ⟨rfl, hw'⟩; obtain rfl := hw') | (at_builtin; refine wpList_append_upon _ rfl (.tmp 51) (.tmp 57) 22 22 rfl hc i0 (.int .u8 0) 1 Yba.underlying22 hi hz0 hz1 hz2 rfl rfl (hupr.alloc hc _) _ 1 [.int .u8 (digAt ds (dp + (j : Int)))] rfl (src_one _ _) (by unfold maxLen; omega) (by omega) ?_; intro v' w' hup'))
            go_roundg (P - (j + 1))
            case measure => omega
            case rel =>
              refine ⟨j + 1, Upon.next 0 (dlen + 16) 1 (dlen + (intModel ds dp).length + 1 + j) rr 1, rfl, by omega, by go_num, upon_to hup' (by omega) ?_⟩
              rw [places_succ, ← List.append_assoc, cells_append _ [digAt ds (dp + (j : Int))]]
              rfl
          · obtain rfl : j = P := by omega
            go_wp2_with fail
            go_ret
            refine ⟨_, rfl, ?_⟩
            have hfin := upon_to hupr (m' := dlen + (modPart ds dp prec).length) (ks' := cells (dst ++ modPart ds dp prec)) (by rw [HA.out, HF.out]; simp [places_length]; omega) (by rw [HA.out, HF.out]; simp)
            exact fin_upon hc hfin hsz hs1 (by omega)
      · go_wp2_with fail
        go_ret
        refine ⟨_, rfl, ?_⟩
        have hfin := upon_to hup2 (m' := dlen + (modPart ds dp prec).length) (ks' := cells (dst ++ modPart ds dp prec)) (by rw [HA.out]; unfold fracModel; rw [if_pos (by omega), List.append_nil]) (by rw [HA.out]; unfold fracModel; rw [if_pos (by omega), List.append_nil])
        exact fin_upon hc hfin hsz hs1 (by omega)

end LawA
end Go.Proofs.Ybulkcdui
