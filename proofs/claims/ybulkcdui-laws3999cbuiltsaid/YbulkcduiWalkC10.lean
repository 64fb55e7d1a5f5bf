import Derived.Test.YbulkcduiWalkC7
import Derived.Test.YbulkcduiWalkC9
import Derived.Test.YbulkcduiPlainC6
import Derived.WalkMore
import Derived.Deep.DeepCutAuto
import Derived.Deep.CutBlock
namespace Go.Proofs.Ybulkcdui
open Go.RowKit
open LawA (Since)
namespace LawC

theorem dec_t {p : Prop} [Decidable p] (h : p) : decide p = true := by simp [h]
theorem dec_f {p : Prop} [Decidable p] (h : ¬ p) : decide p = false := by simp [h]
theorem cval_pos {bs c : Int} (h : dvU c < bs) : cval bs c = dvU c := by unfold cval; rw [if_pos h]

set_option maxRecDepth 100000 in
set_option maxHeartbeats 4000000 in
theorem cmodel_any (s : ByteArray) (bs : Int) (w : World) (hs : s.size ≤ 4096) (hb : bs = 10 ∨ bs = 16) (hgood : ∀ j, j < s.size → goodB (byteI s j)) :
    Calls Yba.prog 22 #[.string s, .int .i64 bs] w fun e w' => ∃ (i : Nat) (st : St), e = .returned (.tuple #[.agg #[.int .i64 st.dp, .string (s.extract 0 i), .int .i64 (firstOf i st), .int .u64 st.x, .int .i64 (nxOf (limOf bs) st), .bool st.trunc], .int .i64 (i : Int), .bool (okOf st)]) ∧
      Ends s bs (limOf bs) i st ∧ Since w.heap.size w w' := by
  have hb0 : 10 ≤ bs := by omega
  have hb1 : bs ≤ 16 := by omega
  have HB : Hid (bs = 10 ∨ bs = 16) := hb
  clear hb
  obtain ⟨lim, hlim⟩ : ∃ lim, limOf bs = lim := ⟨_, rfl⟩
  have hl15 : 15 ≤ lim ∧ lim ≤ 19 := by rw [← hlim]; exact limOf_range bs
  obtain ⟨hl0, hl1⟩ := hl15
  have HLM : Hid (limOf bs = lim) := hlim
  rw [hlim]
  clear hlim
  go_enter Yba.func22, Yba.ntmps22
  go_upto_if 22 with fail
  go_cut [7] (fun l wx => l = .int .i64 (lim : Int) ∧ w.alloc (.cells #[.int .i64 0, .string ⟨#[]⟩, .int .i64 0, .int .u64 0, .int .i64 0, .bool false] 34) = wx)
  case first =>
    cases h16 : (bs == 16) with
    | true =>
      go_wp2_with fail
      go_meet
      case rel => exact ⟨by rw [← HLM.out, limOf_16 h16]; rfl, rfl⟩
    | false =>
      go_wp2_with fail
      go_meet
      case rel => exact ⟨by rw [← HLM.out, limOf_10 h16]; rfl, rfl⟩
  case rest =>
  obtain ⟨rfl, rfl⟩ := hcut
  go_upto_block 0 with fail
  go_cut [8, 9, 10, 11, 12, 13, 14, 15, 16] (fun s8 s9 s10 s11 s12 s13 s14 s15 s16 wx => w.alloc (.cells #[.int .i64 0, .string ⟨#[]⟩, .int .i64 0, .int .u64 0, .int .i64 0, .bool false] 34) = wx ∧ ∃ (k : Nat) (pt sd zr tr : Bool) (dp : Int) (n : Nat) (fi x : Int),
      s8 = .bool pt ∧ s9 = .bool sd ∧ s10 = .bool zr ∧ s11 = .bool tr ∧ s12 = .int .i64 dp ∧ s13 = .int .i64 (n : Int) ∧ s14 = .int .i64 fi ∧ s15 = .int .u64 x ∧ s16 = .int .i64 (k : Int) ∧
      Md s bs lim k ⟨pt, sd, zr, tr, dp, n, fi, x⟩ ∧ Ends s bs lim k ⟨pt, sd, zr, tr, dp, n, fi, x⟩)
  case first =>
    go_wp2_with fail
    go_loopg [8, 9, 10, 11, 12, 13, 14, 15, 16] s.size (fun g s8 s9 s10 s11 s12 s13 s14 s15 s16 wx => w.alloc (.cells #[.int .i64 0, .string ⟨#[]⟩, .int .i64 0, .int .u64 0, .int .i64 0, .bool false] 34) = wx ∧ ∃ (k : Nat) (pt sd zr tr : Bool) (dp : Int) (n : Nat) (fi x : Int),
      g = s.size - k ∧ s8 = .bool pt ∧ s9 = .bool sd ∧ s10 = .bool zr ∧ s11 = .bool tr ∧ s12 = .int .i64 dp ∧ s13 = .int .i64 (n : Int) ∧ s14 = .int .i64 fi ∧ s15 = .int .u64 x ∧ s16 = .int .i64 (k : Int) ∧
      Md s bs lim k ⟨pt, sd, zr, tr, dp, n, fi, x⟩)
    case atStart => exact ⟨rfl, 0, false, false, false, false, 0, 0, -1, 0, rfl, rfl, rfl, rfl, rfl, rfl, rfl, rfl, rfl, rfl, Md.begin s bs lim⟩
    case round =>
      obtain ⟨rfl, k, pt, sd, zr, tr, dp, n, fi, x, hg, rfl, rfl, rfl, rfl, rfl, rfl, rfl, rfl, rfl, hM⟩ := hrel
      have hkl := hM.le
      have hnk : n ≤ k := hM.nle
      have hdl : -(k : Int) ≤ dp := hM.dlo
      have hdh : dp ≤ (k : Int) := hM.dhi
      by_cases hlt : k < s.size
      · obtain ⟨c, hc⟩ : ∃ c, ((s[k]'hlt).toNat : Int) = c := ⟨_, rfl⟩
        have HC : Hid (byteI s k = c) := by show _ = _; rw [← byteI_eq s k hlt]; exact hc
        have gc : goodB c := by rw [← HC.out]; exact hgood k hlt
        have HGO : Hid (∀ j, j < s.size → goodB (byteI s j)) := hgood
        clear hgood
        by_cases hdg : dvU c < bs
        · have cd := dec_t hdg
          have cv := cval_pos hdg
          have HD := hM.digit hlt (by rw [HC.out]; exact hdg)
          rw [HC.out] at HD
          have HDh : Hid (Md s bs lim (k + 1) (digSt bs lim k (dvU c) ⟨pt, sd, zr, tr, dp, n, fi, x⟩)) := HD
          clear HD
          cases sd with
          | false =>
            have HN0 : Hid (n = 0) := (hM.off rfl).2
            have hnl : (n : Int) < (lim : Int) := by have := HN0.out; omega
            cases hv0 : (dvU c == 0) with
            | true =>
              cases pt with
              | true =>
                go_wp2_with (go_at_call 28; refine (cdig_any c bs _ gc HB.out).mono ?_; rintro e w' ⟨rfl, hw'⟩; subst hw')
                go_roundg (s.size - (k + 1))
                case measure => omega
                case rel => exact ⟨rfl, k + 1, true, false, true, tr, dp - 1, n, fi, x, rfl, rfl, rfl, rfl, rfl, rfl, by go_num, rfl, rfl, by go_num, (by have := HDh.out; rw [digSt_zero _ (beq_t hv0)] at this; exact this)⟩
              | false =>
                go_wp2_with (go_at_call 28; refine (cdig_any c bs _ gc HB.out).mono ?_; rintro e w' ⟨rfl, hw'⟩; subst hw')
                go_roundg (s.size - (k + 1))
                case measure => omega
                case rel => exact ⟨rfl, k + 1, false, false, true, tr, dp, n, fi, x, rfl, rfl, rfl, rfl, rfl, rfl, by go_num, rfl, rfl, by go_num, (by have := HDh.out; rw [digSt_zero _ (beq_t hv0)] at this; exact this)⟩
            | false =>
              have hnn : n < lim := by omega
              cases pt with
              | true =>
                go_wp2_with (go_at_call 28; refine (cdig_any c bs _ gc HB.out).mono ?_; rintro e w' ⟨rfl, hw'⟩; subst hw')
                go_roundg (s.size - (k + 1))
                case measure => omega
                case rel => exact ⟨rfl, k + 1, true, true, zr, tr, dp, n + 1, (k : Int), stepX bs x (dvU c), rfl, rfl, rfl, rfl, rfl, rfl, by go_num, rfl, rfl, by go_num, (by have := HDh.out; rw [digSt_lt _ (.inr (beq_f hv0)) hnn] at this; exact this)⟩
              | false =>
                go_wp2_with (go_at_call 28; refine (cdig_any c bs _ gc HB.out).mono ?_; rintro e w' ⟨rfl, hw'⟩; subst hw')
                go_roundg (s.size - (k + 1))
                case measure => omega
                case rel => exact ⟨rfl, k + 1, false, true, zr, tr, dp + 1, n + 1, (k : Int), stepX bs x (dvU c), rfl, rfl, rfl, rfl, rfl, rfl, by go_num, rfl, rfl, by go_num, (by have := HDh.out; rw [digSt_lt _ (.inr (beq_f hv0)) hnn] at this; exact this)⟩
          | true =>
            by_cases hnl : (n : Int) < (lim : Int)
            · have hnn : n < lim := by omega
              cases pt with
              | true =>
                go_wp2_with (go_at_call 28; refine (cdig_any c bs _ gc HB.out).mono ?_; rintro e w' ⟨rfl, hw'⟩; subst hw')
                go_roundg (s.size - (k + 1))
                case measure => omega
                case rel => exact ⟨rfl, k + 1, true, true, zr, tr, dp, n + 1, fi, stepX bs x (dvU c), rfl, rfl, rfl, rfl, rfl, rfl, by go_num, rfl, rfl, by go_num, (by have := HDh.out; rw [digSt_lt _ (.inl rfl) hnn] at this; exact this)⟩
              | false =>
                go_wp2_with (go_at_call 28; refine (cdig_any c bs _ gc HB.out).mono ?_; rintro e w' ⟨rfl, hw'⟩; subst hw')
                go_roundg (s.size - (k + 1))
                case measure => omega
                case rel => exact ⟨rfl, k + 1, false, true, zr, tr, dp + 1, n + 1, fi, stepX bs x (dvU c), rfl, rfl, rfl, rfl, rfl, rfl, by go_num, rfl, rfl, by go_num, (by have := HDh.out; rw [digSt_lt _ (.inl rfl) hnn] at this; exact this)⟩
            · have hnn : ¬ n < lim := by omega
              cases hv0 : (dvU c != 0) with
              | true =>
                cases pt with
                | true =>
                  go_wp2_with (go_at_call 28; refine (cdig_any c bs _ gc HB.out).mono ?_; rintro e w' ⟨rfl, hw'⟩; subst hw')
                  go_roundg (s.size - (k + 1))
                  case measure => omega
                  case rel => exact ⟨rfl, k + 1, true, true, zr, true, dp, n + 1, fi, x, rfl, rfl, rfl, rfl, rfl, rfl, by go_num, rfl, rfl, by go_num, (by have := HDh.out; rw [digSt_ge _ (.inl rfl) hnn, hv0, Bool.or_true] at this; exact this)⟩
                | false =>
                  go_wp2_with (go_at_call 28; refine (cdig_any c bs _ gc HB.out).mono ?_; rintro e w' ⟨rfl, hw'⟩; subst hw')
                  go_roundg (s.size - (k + 1))
                  case measure => omega
                  case rel => exact ⟨rfl, k + 1, false, true, zr, true, dp + 1, n + 1, fi, x, rfl, rfl, rfl, rfl, rfl, rfl, by go_num, rfl, rfl, by go_num, (by have := HDh.out; rw [digSt_ge _ (.inl rfl) hnn, hv0, Bool.or_true] at this; exact this)⟩
              | false =>
                cases pt with
                | true =>
                  go_wp2_with (go_at_call 28; refine (cdig_any c bs _ gc HB.out).mono ?_; rintro e w' ⟨rfl, hw'⟩; subst hw')
                  go_roundg (s.size - (k + 1))
                  case measure => omega
                  case rel => exact ⟨rfl, k + 1, true, true, zr, tr, dp, n + 1, fi, x, rfl, rfl, rfl, rfl, rfl, rfl, by go_num, rfl, rfl, by go_num, (by have := HDh.out; rw [digSt_ge _ (.inl rfl) hnn, hv0, Bool.or_false] at this; exact this)⟩
                | false =>
                  go_wp2_with (go_at_call 28; refine (cdig_any c bs _ gc HB.out).mono ?_; rintro e w' ⟨rfl, hw'⟩; subst hw')
                  go_roundg (s.size - (k + 1))
                  case measure => omega
                  case rel => exact ⟨rfl, k + 1, false, true, zr, tr, dp + 1, n + 1, fi, x, rfl, rfl, rfl, rfl, rfl, rfl, by go_num, rfl, rfl, by go_num, (by have := HDh.out; rw [digSt_ge _ (.inl rfl) hnn, hv0, Bool.or_false] at this; exact this)⟩
        · have cd := dec_f hdg
          have HND : Hid (¬ dvU (byteI s k) < bs) := by show ¬ _; rw [HC.out]; exact hdg
          cases h46 : (c == 46) with
          | true =>
            cases pt with
            | false =>
              go_wp2_with (go_at_call 28; refine (cdig_any c bs _ gc HB.out).mono ?_; rintro e w' ⟨rfl, hw'⟩; subst hw')
              go_roundg (s.size - (k + 1))
              case measure => omega
              case rel => exact ⟨rfl, k + 1, true, sd, zr, tr, dp, n, fi, x, rfl, rfl, rfl, rfl, rfl, rfl, rfl, rfl, rfl, by go_num, hM.dot hlt (Int.not_lt.2 HND.out) (HC.out.trans (beq_t h46))⟩
            | true =>
              have h95 : (c == 95) = false := by rw [beq_t h46]; rfl
              go_wp2_with (go_at_call 28; refine (cdig_any c bs _ gc HB.out).mono ?_; rintro e w' ⟨rfl, hw'⟩; subst hw')
              go_meet
              case rel => exact ⟨rfl, k, true, sd, zr, tr, dp, n, fi, x, rfl, rfl, rfl, rfl, rfl, rfl, rfl, rfl, rfl, hM, hM.stop (Int.not_lt.2 HND.out) (fun _ => rfl) (fun h => by rw [HC.out, beq_t h46] at h; cases h)⟩
          | false =>
            have N46 : Hid (c ≠ 46) := beq_f h46
            cases h95 : (c == 95) with
            | true =>
              cases hu : us s bs k with
              | true =>
                go_wp2_with (first | (go_at_call 28; refine (cdig_any c bs _ gc HB.out).mono ?_; rintro e w' ⟨rfl, hw'⟩; subst hw') | (go_at_call 29; refine (cus_any s bs k _ hs HB.out hlt HGO.out).mono ?_; rintro e w' ⟨rfl, hw'⟩; subst hw'))
                go_roundg (s.size - (k + 1))
                case measure => omega
                case rel => exact ⟨rfl, k + 1, pt, sd, zr, tr, dp, n, fi, x, rfl, rfl, rfl, rfl, rfl, rfl, rfl, rfl, rfl, by go_num, hM.uscore hlt (Int.not_lt.2 HND.out) (HC.out.trans (beq_t h95)) hu⟩
              | false =>
                go_wp2_with (first | (go_at_call 28; refine (cdig_any c bs _ gc HB.out).mono ?_; rintro e w' ⟨rfl, hw'⟩; subst hw') | (go_at_call 29; refine (cus_any s bs k _ hs HB.out hlt HGO.out).mono ?_; rintro e w' ⟨rfl, hw'⟩; subst hw'))
                go_meet
                case rel => exact ⟨rfl, k, pt, sd, zr, tr, dp, n, fi, x, rfl, rfl, rfl, rfl, rfl, rfl, rfl, rfl, rfl, hM, hM.stop (Int.not_lt.2 HND.out) (fun h => absurd (HC.out.symm.trans h) N46.out) (fun _ => hu)⟩
            | false =>
              have N95 : Hid (c ≠ 95) := beq_f h95
              go_wp2_with (go_at_call 28; refine (cdig_any c bs _ gc HB.out).mono ?_; rintro e w' ⟨rfl, hw'⟩; subst hw')
              go_meet
              case rel => exact ⟨rfl, k, pt, sd, zr, tr, dp, n, fi, x, rfl, rfl, rfl, rfl, rfl, rfl, rfl, rfl, rfl, hM, hM.stop (Int.not_lt.2 HND.out) (fun h => absurd (HC.out.symm.trans h) N46.out) (fun h => absurd (HC.out.symm.trans h) N95.out)⟩
      · go_wp2_with fail
        go_meet
        case rel => exact ⟨rfl, k, pt, sd, zr, tr, dp, n, fi, x, rfl, rfl, rfl, rfl, rfl, rfl, rfl, rfl, rfl, hM, hM.full (by omega)⟩
  case rest =>
  obtain ⟨rfl, k, pt, sd, zr, tr, dp, n, fi, x, rfl, rfl, rfl, rfl, rfl, rfl, rfl, rfl, rfl, hM, hE⟩ := hcut
  have hkl := hM.le
  have hnk : n ≤ k := hM.nle
  have HE : Hid (Ends s bs lim k ⟨pt, sd, zr, tr, dp, n, fi, x⟩) := hE
  clear hE hgood
  obtain ⟨F, hF⟩ : ∃ F, firstOf k ⟨pt, sd, zr, tr, dp, n, fi, x⟩ = F := ⟨_, rfl⟩
  have HF : Hid (firstOf k ⟨pt, sd, zr, tr, dp, n, fi, x⟩ = F) := hF
  clear hF
  go_upto_if 84 with fail
  go_cut [14] (fun f wx => f = .int .i64 F ∧ w.alloc (.cells #[.int .i64 0, .string ⟨#[]⟩, .int .i64 0, .int .u64 0, .int .i64 0, .bool false] 34) = wx)
  case first =>
    cases sd with
    | true =>
      have hfi : 0 ≤ fi := (hM.on rfl).1
      go_wp2_with fail
      go_meet
      case rel => exact ⟨by rw [← HF.out]; rfl, rfl⟩
    | false =>
      have hfi : fi < 0 := by have := (hM.off rfl).1; have e : fi = -1 := this; omega
      go_wp2_with fail
      go_meet
      case rel => exact ⟨by rw [← HF.out]; rfl, rfl⟩
  case rest =>
  obtain ⟨rfl, rfl⟩ := hcut
  clear hM
  obtain ⟨N, hN⟩ : ∃ N, nxOf lim ⟨pt, sd, zr, tr, dp, n, fi, x⟩ = N := ⟨_, rfl⟩
  have HN : Hid (nxOf lim ⟨pt, sd, zr, tr, dp, n, fi, x⟩ = N) := hN
  clear hN
  go_upto_if 89 with fail
  go_cut [20] (fun f wx => f = .int .i64 N ∧ w.alloc (.cells #[.int .i64 0, .string ⟨#[]⟩, .int .i64 0, .int .u64 0, .int .i64 0, .bool false] 34) = wx)
  case first =>
    by_cases hml : (lim : Int) < (n : Int)
    · go_wp2_with fail
      go_meet
      case rel => exact ⟨by rw [← HN.out]; unfold nxOf; rw [if_pos hml], rfl⟩
    · go_wp2_with fail
      go_meet
      case rel => exact ⟨by rw [← HN.out]; unfold nxOf; rw [if_neg (Int.not_lt.2 hml)], rfl⟩
  case rest =>
  obtain ⟨rfl, rfl⟩ := hcut
  have hkI : (k : Int) ≤ (s.size : Int) := by omega
  cases zr with
  | true =>
    go_wp2_with fail
    exact bodyPost_ret (v := .tuple #[.agg #[.int .i64 dp, .string (s.extract 0 k), .int .i64 F, .int .u64 x, .int .i64 N, .bool tr], .int .i64 (k : Int), .bool true]) (by simp [results, Yba.results22, go_sem]) rfl
      ⟨k, _, by rw [HF.out, HN.out]; rfl, HE.out, Since.of_below ((Below.refl _ _).alloc (Nat.le_refl _) _)⟩
  | false =>
    go_wp2_with fail
    exact bodyPost_ret (v := .tuple #[.agg #[.int .i64 dp, .string (s.extract 0 k), .int .i64 F, .int .u64 x, .int .i64 N, .bool tr], .int .i64 (k : Int), .bool (decide (0 < n))]) (by simp [results, Yba.results22, go_sem]) rfl
      ⟨k, _, by rw [HF.out, HN.out]; rfl, HE.out, Since.of_below ((Below.refl _ _).alloc (Nat.le_refl _) _)⟩

end LawC
end Go.Proofs.Ybulkcdui
