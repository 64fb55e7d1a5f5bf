import Derived.Test.YbulkcduiWalkA2
import Derived.Deep.DeepCutAuto
namespace Go.Proofs.Ybulkcdui
open Go.RowKit
namespace LawA

theorem upon_to {W : World} {ao : Option Addr} {b off len cap : Nat} {olds : List Value} {w : World} {v : Value} {m m' : Nat} {ks ks' : List Value} {r : Nat} (h : Upon W 5 1 ao b off len cap olds w v m ks r) (hm : m = m') (hk : ks = ks') : Upon W 5 1 ao b off len cap olds w v m' ks' r := by
  subst hm; subst hk; exact h

theorem intPart_pos (ds : List Int) (d : Nat) (h : 0 < d) : intPart ds (d : Int) = ds.take d ++ List.replicate (d - ds.length) 48 := by
  unfold intPart
  rw [if_neg (by omega)]
  rfl

theorem fracPart_pos (ds : List Int) (dp : Int) (P : Nat) (hP : 0 < P) (L F : Nat) (hL : L = leadOf dp (P : Int)) (hF : F = dp.toNat) :
    fracPart ds dp (P : Int) = [46] ++ List.replicate L 48 ++ (ds.drop F).take (P - L) ++ List.replicate (P - L - (ds.length - F)) 48 := by
  subst hL; subst hF
  unfold fracPart
  rw [if_neg (by omega)]
  rfl

theorem mid_eq (ds : List Int) (F Q K : Nat) (h1 : K ≤ Q) (h2 : K ≤ ds.length - F) (h3 : K = Q ∨ K = ds.length - F) : (ds.drop F).take K = (ds.drop F).take Q ∧ Q - K = Q - (ds.length - F) := by
  rcases h3 with rfl | h3
  · exact ⟨rfl, by omega⟩
  · refine ⟨?_, by omega⟩
    rw [List.take_of_length_le (by rw [List.length_drop]; omega), List.take_of_length_le (by rw [List.length_drop]; omega)]

theorem app_cells {ds ap ip fp : List Int} {L F Q K : Nat} (ha : ap = ip ++ fp) (hf : fp = [46] ++ List.replicate L 48 ++ (ds.drop F).take Q ++ List.replicate (Q - (ds.length - F)) 48)
    (h1 : K ≤ Q) (h2 : K ≤ ds.length - F) (h3 : K = Q ∨ K = ds.length - F) : cells ip ++ [.int .u8 46] ++ zs48 L ++ cells ((ds.drop F).take K) ++ zs48 (Q - K) = cells ap := by
  obtain ⟨e1, e2⟩ := mid_eq ds F Q K h1 h2 h3
  rw [e1, e2, ha, hf]
  simp only [cells_append, cells_zs, cells_one, List.append_assoc]

theorem app_len {ds ap ip fp : List Int} {L F Q K : Nat} (hl : ap.length = ip.length + fp.length) (hf : fp = [46] ++ List.replicate L 48 ++ (ds.drop F).take Q ++ List.replicate (Q - (ds.length - F)) 48)
    (h1 : K ≤ Q) (h2 : K ≤ ds.length - F) : ip.length + 1 + L + K + (Q - K) = ap.length := by
  rw [hl, hf]
  simp only [List.length_append, List.length_replicate, List.length_cons, List.length_nil, List.length_take, List.length_drop]
  omega

set_option maxHeartbeats 1600000 in
theorem appendF_any (W : World) (ao : Option Addr) (b off len cap : Nat) (olds : List Value) (hc : Came W 1 ao b off len cap olds)
    (xa : Option Addr) (xb xo xl xc : Nat) (ds : List Int) (hr : Reads W xa xb xo xl xc ds) (dp prec : Int)
    (hap : ∀ j t, j < xl → t < (appPart ds dp prec).length → ¬ (xb = b ∧ xo + j = off + len + t))
    (hlen : len ≤ 1024) (hxl : xl ≤ 1024) (_hxc : xc ≤ 100000) (hd0 : -400 ≤ dp) (hd1 : dp ≤ 400) (hp : prec ≤ 400) (hp0 : -9223372036854775808 ≤ prec) :
    Calls Yba.prog 8 #[.slice ao len cap, .slice xa xl xc, .int .i64 dp, .int .i64 prec] W fun e w' => ∃ v', e = .returned v' ∧ ∃ r', Upon W 5 1 ao b off len cap olds w' v' (appPart ds dp prec).length (cells (appPart ds dp prec)) r' := by
  obtain ⟨i0, hi, hz0, hz1, hz2⟩ := info_parts Yba.info5
  have hxle := hr.le
  have hxlen := hr.len_eq
  have HX : Hid (ds.length = xl) := hxlen
  clear hxlen
  have hil := intPart_length ds dp hd1
  go_enter Yba.func8, Yba.ntmps8
  go_upto_if 14 with fail
  go_cut [0] (fun v wx => ∃ r, Upon W 5 1 ao b off len cap olds wx v (intPart ds dp).length (cells (intPart ds dp)) r)
  case first =>
    by_cases h0 : dp ≤ 0
    · go_wp2_with (at_builtin; refine wpList_append_upon _ rfl (.tmp 15) (.tmp 16) 22 22 rfl hc i0 (.int .u8 0) 1 Yba.underlying22 hi hz0 hz1 hz2 rfl rfl ((Upon.start hc).alloc hc _) _ 1 [.int .u8 48] rfl (src_one _ _) (by unfold maxLen; omega) (by omega) ?_)
      intro v' w' hup'
      go_wp2_with fail
      go_meet
      case rel =>
        refine ⟨_, upon_to hup' ?_ ?_⟩
        · unfold intPart; rw [if_pos h0]; rfl
        · unfold intPart; rw [if_pos h0]; rfl
    · obtain ⟨d, rfl⟩ : ∃ d : Nat, dp = (d : Int) := ⟨dp.toNat, by omega⟩
      have hdpos : 0 < d := by omega
      by_cases hdl : (xl : Int) < (d : Int)
      · go_wp2_with (at_builtin; refine wpList_append_upon _ rfl (.tmp 22) (.tmp 25) 22 22 rfl hc i0 (.int .u8 0) 1 Yba.underlying22 hi hz0 hz1 hz2 rfl rfl (Upon.start hc) _ xl (cells (ds.take xl)) rfl (src_take hr xl _ (Nat.le_refl _)) (by unfold maxLen; omega) (by omega) ?_)
        intro v1 w1 hup1
        go_wp2_with (go_at_call 16; refine (zeros_any W ao b off len cap olds hc _ _ _ _ _ hup1 _ (d - xl) (by omega) (by omega)).mono ?_; rintro e w' ⟨v', r', rfl, hup'⟩)
        go_meet
        case rel =>
          refine ⟨_, upon_to hup' ?_ ?_⟩
          · rw [intPart_pos ds d hdpos, List.length_append, List.length_take, List.length_replicate, HX.out]; omega
          · rw [intPart_pos ds d hdpos, cells_append, cells_zs, HX.out, List.take_of_length_le (by rw [HX.out]; omega), List.take_of_length_le (by rw [HX.out]; omega)]
      · go_wp2_with (at_builtin; refine wpList_append_upon _ rfl (.tmp 22) (.tmp 25) 22 22 rfl hc i0 (.int .u8 0) 1 Yba.underlying22 hi hz0 hz1 hz2 rfl rfl (Upon.start hc) _ d (cells (ds.take d)) rfl (src_take hr d _ (by omega)) (by unfold maxLen; omega) (by omega) ?_)
        intro v1 w1 hup1
        go_wp2_with (go_at_call 16; refine (zeros_any W ao b off len cap olds hc _ _ _ _ _ hup1 _ 0 (by omega) (by omega)).mono ?_; rintro e w' ⟨v', r', rfl, hup'⟩)
        go_meet
        case rel =>
          refine ⟨_, upon_to hup' ?_ ?_⟩
          · rw [intPart_pos ds d hdpos, List.length_append, List.length_take, List.length_replicate, HX.out]; omega
          · rw [intPart_pos ds d hdpos, cells_append, cells_zs, HX.out, show d - xl = 0 by omega]
  case rest =>
    obtain ⟨r1, hup1⟩ := hcut
    obtain ⟨pp, hpp⟩ : ∃ pp, pp = precOf ds.length dp prec := ⟨_, rfl⟩
    have hppb : pp ≤ 1424 := by rw [hpp]; unfold precOf; have := HX.out; split <;> omega
    have HP : Hid (pp = precOf ds.length dp prec) := hpp
    clear hpp
    go_upto_if 33 with fail
    go_cut [3] (fun p wx => p = .int .i64 pp ∧ wx = wc)
    case first =>
      by_cases hp0 : prec < 0
      · go_wp2_with fail
        go_meet
        case rel => refine ⟨?_, rfl⟩; rw [HP.out]; unfold precOf; rw [if_pos hp0, HX.out]
      · go_wp2_with fail
        go_meet
        case rel => refine ⟨?_, rfl⟩; rw [HP.out]; unfold precOf; rw [if_neg (by omega)]
    case rest =>
      obtain ⟨rfl, rfl⟩ := hcut
      have hapl : (appPart ds dp prec).length = (intPart ds dp).length + (fracPart ds dp pp).length := by unfold appPart; rw [← HP.out, List.length_append]
      have hapc : appPart ds dp prec = intPart ds dp ++ fracPart ds dp pp := by unfold appPart; rw [← HP.out]
      have HA : Hid (appPart ds dp prec = intPart ds dp ++ fracPart ds dp pp) := hapc
      have HL : Hid ((appPart ds dp prec).length = (intPart ds dp).length + (fracPart ds dp pp).length) := hapl
      clear hapl hapc
      by_cases hpos : 0 < pp
      · obtain ⟨P, rfl⟩ : ∃ P : Nat, pp = (P : Int) := ⟨pp.toNat, by omega⟩
        obtain ⟨L, hL⟩ : ∃ L, L = leadOf dp (P : Int) := ⟨_, rfl⟩
        obtain ⟨F, hF⟩ : ∃ F, F = dp.toNat := ⟨_, rfl⟩
        have HLd : Hid (L = leadOf dp (P : Int)) := hL
        have HF : Hid (F = dp.toNat) := hF
        have hLP : L ≤ P := by rw [hL]; unfold leadOf; omega
        have hF4 : F ≤ 400 := by omega
        clear hL hF
        go_upto_region 9 with fail
        go_cut [10] (fun l wx => l = .int .i64 (L : Int) ∧ wx = wc)
        case first =>
          by_cases h0 : dp < 0
          · by_cases h1 : (P : Int) < -dp
            · go_wp2_with fail
              all_goals (go_meet; case rel => (refine ⟨?_, rfl⟩; congr 1; have := HLd.out; unfold leadOf at this; omega))
            · go_wp2_with fail
              all_goals (go_meet; case rel => (refine ⟨?_, rfl⟩; congr 1; have := HLd.out; unfold leadOf at this; omega))
          · go_wp2_with fail
            all_goals (go_meet; case rel => (refine ⟨?_, rfl⟩; congr 1; have := HLd.out; unfold leadOf at this; omega))
        case rest =>
          obtain ⟨rfl, rfl⟩ := hcut
          go_upto_region 10 with fail
          go_cut [11] (fun l wx => l = .int .i64 (F : Int) ∧ wx = wc)
          case first =>
            by_cases h0 : dp < 0
            · go_wp2_with fail
              all_goals (go_meet; case rel => (refine ⟨?_, rfl⟩; congr 1; have := HF.out; omega))
            · go_wp2_with fail
              all_goals (go_meet; case rel => (refine ⟨?_, rfl⟩; congr 1; have := HF.out; omega))
          case rest =>
            obtain ⟨rfl, rfl⟩ := hcut
            obtain ⟨N, hN⟩ : ∃ N : Int, N = if (P : Int) - (L : Int) < (xl : Int) - (F : Int) then (P : Int) - (L : Int) else (xl : Int) - (F : Int) := ⟨_, rfl⟩
            have hN1 : N ≤ (P : Int) - (L : Int) := by rw [hN]; split <;> omega
            have hN2 : N ≤ (xl : Int) - (F : Int) := by rw [hN]; split <;> omega
            have hN3 : N = (P : Int) - (L : Int) ∨ N = (xl : Int) - (F : Int) := by rw [hN]; split <;> omega
            have HN : Hid (N = if (P : Int) - (L : Int) < (xl : Int) - (F : Int) then (P : Int) - (L : Int) else (xl : Int) - (F : Int)) := hN
            have HN3 : Hid (N = (P : Int) - (L : Int) ∨ N = (xl : Int) - (F : Int)) := hN3
            clear hN hN3
            go_upto_region 11 with fail
            go_cut [12] (fun l wx => l = .int .i64 N ∧ wx = wc)
            case first =>
              by_cases h0 : (P : Int) - (L : Int) < (xl : Int) - (F : Int)
              · go_wp2_with fail
                all_goals (go_meet; case rel => (refine ⟨?_, rfl⟩; congr 1; have := HN.out; rw [if_pos h0] at this; omega))
              · go_wp2_with fail
                all_goals (go_meet; case rel => (refine ⟨?_, rfl⟩; congr 1; have := HN.out; rw [if_neg (by omega)] at this; omega))
            case rest =>
              obtain ⟨rfl, rfl⟩ := hcut
              have hfr := fracPart_pos ds dp P (by omega) L F HLd.out HF.out
              have HFR : Hid (fracPart ds dp (P : Int) = [46] ++ List.replicate L 48 ++ (ds.drop F).take (P - L) ++ List.replicate (P - L - (ds.length - F)) 48) := hfr
              clear hfr
              by_cases hNpos : 0 < N
              · obtain ⟨K, rfl⟩ : ∃ K : Nat, N = (K : Int) := ⟨N.toNat, by omega⟩
                obtain rfl := hr.addr (by omega)
                have hFx : F < xc := by omega
                have hFx' : ¬ xc = F := by omega
                go_wp2_with (at_builtin; refine wpList_append_upon _ rfl (.tmp 55) (.tmp 56) 22 22 rfl hc i0 (.int .u8 0) 1 Yba.underlying22 hi hz0 hz1 hz2 rfl rfl (hup1.alloc hc _) _ 1 [.int .u8 46] rfl (src_one _ _) (by unfold maxLen; omega) (by omega) ?_)
                intro v2 w2 hup2
                go_upto_if 62 with (go_at_call 16; refine (zeros_any W ao b off len cap olds hc _ _ _ _ _ hup2 _ L rfl (by omega)).mono ?_; rintro e w3 ⟨v3, r3, rfl, hup3⟩)
                have hr3 : Reads w3 (some ⟨xb, xo, none⟩) xb xo xl xc ds := reads_upon hr hup3 hap (by rw [HL.out, HFR.out]; simp only [List.length_append, List.length_replicate, List.length_cons, List.length_nil]; omega)
                go_wp2_with (at_builtin; refine wpList_append_upon _ rfl (.tmp 63) (.tmp 69) 22 22 rfl hc i0 (.int .u8 0) 1 Yba.underlying22 hi hz0 hz1 hz2 rfl rfl hup3 _ K (cells ((ds.drop F).take K)) rfl (src_mid' hr3 F K _ (by omega)) (by unfold maxLen; omega) (by omega) ?_)
                intro v4 w4 hup4
                go_wp2_with (go_at_call 16; refine (zeros_any W ao b off len cap olds hc _ _ _ _ _ hup4 _ (P - L - K) (by omega) (by omega)).mono ?_; rintro e w5 ⟨v5, r5, rfl, hup5⟩)
                go_ret
                refine ⟨_, rfl, r5, upon_to hup5 ?_ ?_⟩
                · exact app_len (K := K) HL.out HFR.out (by omega) (by have := HX.out; omega)
                · have := app_cells (K := K) HA.out HFR.out (by omega) (by have := HX.out; omega) (by have := HN3.out; have := HX.out; omega)
                  simpa using this
              · go_wp2_with (at_builtin; refine wpList_append_upon _ rfl (.tmp 55) (.tmp 56) 22 22 rfl hc i0 (.int .u8 0) 1 Yba.underlying22 hi hz0 hz1 hz2 rfl rfl (hup1.alloc hc _) _ 1 [.int .u8 46] rfl (src_one _ _) (by unfold maxLen; omega) (by omega) ?_)
                intro v2 w2 hup2
                go_upto_if 62 with (go_at_call 16; refine (zeros_any W ao b off len cap olds hc _ _ _ _ _ hup2 _ L rfl (by omega)).mono ?_; rintro e w3 ⟨v3, r3, rfl, hup3⟩)
                go_wp2_with (go_at_call 16; refine (zeros_any W ao b off len cap olds hc _ _ _ _ _ hup3 _ (P - L) (by omega) (by omega)).mono ?_; rintro e w5 ⟨v5, r5, rfl, hup5⟩)
                all_goals
                  go_ret
                  refine ⟨_, rfl, r5, upon_to hup5 ?_ ?_⟩
                  · exact app_len (K := 0) HL.out HFR.out (by omega) (by omega)
                  · have := app_cells (K := 0) HA.out HFR.out (by omega) (by omega) (by have := HN3.out; have := HX.out; omega)
                    simpa [cells] using this
      · go_wp2
        go_ret
        refine ⟨_, rfl, r1, upon_to hup1 ?_ ?_⟩
        · rw [HL.out]; unfold fracPart; rw [if_pos (by omega)]; rfl
        · rw [HA.out]; unfold fracPart; rw [if_pos (by omega), List.append_nil]

end LawA
end Go.Proofs.Ybulkcdui
