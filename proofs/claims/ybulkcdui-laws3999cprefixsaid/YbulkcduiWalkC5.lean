import Derived.Test.YbulkcduiWalkC4
import Derived.WalkMore
import Derived.Deep.DeepCutAuto
import Derived.Deep.CutBlock
namespace Go.Proofs.Ybulkcdui
open Go.RowKit
namespace LawC

set_option maxRecDepth 100000 in
set_option maxHeartbeats 4000000 in
theorem read_any (s : ByteArray) (bs : Int) (bm : Nat) (w : World) (c0 c1 c2 c3 c4 c5 : Value) (hrow : RowIs w bm #[c0, c1, c2, c3, c4, c5]) (hs : s.size ≤ 4096) (hb0 : 10 ≤ bs) (hb1 : bs ≤ 16) :
    Calls Yba.prog 15 #[.pointer (some ⟨bm, 0, none⟩), .string s, .int .i64 bs] w fun e w' => ∃ (i : Nat) (st : St), e = .returned (.tuple #[.int .i64 (i : Int), .bool (okOf st)]) ∧ Ends s bs (limOf bs) i st ∧
      RowIs w' bm #[.int .i64 st.dp, .string (s.extract 0 i), .int .i64 (firstOf i st), .int .u64 st.x, .int .i64 (nxOf (limOf bs) st), .bool st.trunc] ∧ Only bm w w' := by
  obtain ⟨lim, hlim⟩ : ∃ lim, limOf bs = lim := ⟨_, rfl⟩
  have hl15 : 15 ≤ lim ∧ lim ≤ 19 := by rw [← hlim]; exact limOf_range bs
  obtain ⟨hl0, hl1⟩ := hl15
  have HLM : Hid (limOf bs = lim) := hlim
  rw [hlim]
  clear hlim
  go_enter Yba.func15, Yba.ntmps15
  go_wp2
  go_step3
  go_wp2
  go_step3
  go_upto_block 0 with fail
  go_cut [8, 9, 10, 11] (fun d i p z wx => w = wx ∧ ∃ (first : Nat) (d0 : Int) (p0 z0 : Bool), d = .int .i64 d0 ∧ i = .int .i64 (first : Int) ∧ p = .bool p0 ∧ z = .bool z0 ∧ run s bs lim first = some (leadSt p0 z0 d0) ∧ Ef s bs p0 first ∧ first ≤ s.size ∧ -4096 ≤ d0 ∧ d0 ≤ 0)
  case first => as_aux_lemma =>
    go_wp2_with fail
    go_loopg [8, 9, 10, 11] s.size (fun g d i p z wx => w = wx ∧ ∃ (k : Nat) (d0 : Int) (p0 z0 : Bool), g = s.size - k ∧ d = .int .i64 d0 ∧ i = .int .i64 (k : Int) ∧ p = .bool p0 ∧ z = .bool z0 ∧ run s bs lim k = some (leadSt p0 z0 d0) ∧ k ≤ s.size ∧ -(k : Int) ≤ d0 ∧ d0 ≤ 0)
    case atStart => exact ⟨rfl, 0, 0, false, false, rfl, rfl, rfl, rfl, rfl, rfl, Nat.zero_le _, by omega, by omega⟩
    case round =>
      obtain ⟨rfl, k, d0, p0, z0, hk, rfl, rfl, rfl, rfl, hrun, hkl, hd0, hd1⟩ := hrel
      have HR : Hid (run s bs lim k = some (leadSt p0 z0 d0)) := hrun
      clear hrun
      by_cases hlt : k < s.size
      · obtain ⟨c, hc⟩ : ∃ c, ((s[k]'hlt).toNat : Int) = c := ⟨_, rfl⟩
        have HC : Hid (byteI s k = c) := by show _ = _; rw [← byteI_eq s k hlt]; exact hc
        cases h48 : (c == 48) with
        | true =>
          cases p0 with
          | true =>
            go_wp2_with fail
            go_roundg (s.size - (k + 1))
            case measure => omega
            case rel => exact ⟨rfl, k + 1, d0 - 1, true, true, rfl, rfl, by go_num, rfl, rfl, lead_zero HR.out (HC.out.trans (beq_t h48)) hb0, by omega, by omega, by omega⟩
          | false =>
            go_wp2_with fail
            go_roundg (s.size - (k + 1))
            case measure => omega
            case rel => exact ⟨rfl, k + 1, d0, false, true, rfl, rfl, by go_num, rfl, rfl, lead_zero HR.out (HC.out.trans (beq_t h48)) hb0, by omega, by omega, by omega⟩
        | false =>
          have n48 := beq_f h48
          have N48 : Hid (c ≠ 48) := n48
          clear n48
          cases h46 : (c == 46) with
          | true =>
            cases p0 with
            | false =>
              go_wp2_with fail
              go_roundg (s.size - (k + 1))
              case measure => omega
              case rel => exact ⟨rfl, k + 1, d0, true, z0, rfl, rfl, by go_num, rfl, rfl, lead_dot HR.out (HC.out.trans (beq_t h46)) hb1, by omega, by omega, by omega⟩
            | true =>
              have h95 : (c == 95) = false := by rw [beq_t h46]; rfl
              go_wp2_with fail
              go_meet
              case rel => exact ⟨rfl, k, d0, true, z0, rfl, rfl, rfl, rfl, HR.out, ⟨fun _ => by rw [HC.out]; exact N48.out, fun _ _ => rfl, fun _ h => by rw [HC.out, beq_t h46] at h; cases h⟩, hkl, by omega, hd1⟩
          | false =>
            have N46 : Hid (c ≠ 46) := beq_f h46
            cases h95 : (c == 95) with
            | true =>
              cases hu : us s bs k with
              | true =>
                go_wp2_with (go_at_call 23; refine (us_any s bs k _ hs hb0 hb1 hlt).mono ?_; rintro e w' ⟨rfl, hw'⟩; subst hw')
                go_roundg (s.size - (k + 1))
                case measure => omega
                case rel => exact ⟨rfl, k + 1, d0, p0, z0, rfl, rfl, by go_num, rfl, rfl, lead_us HR.out (HC.out.trans (beq_t h95)) hu hb1, by omega, by omega, by omega⟩
              | false =>
                go_wp2_with (go_at_call 23; refine (us_any s bs k _ hs hb0 hb1 hlt).mono ?_; rintro e w' ⟨rfl, hw'⟩; subst hw')
                go_meet
                case rel => exact ⟨rfl, k, d0, p0, z0, rfl, rfl, rfl, rfl, HR.out, ⟨fun _ => by rw [HC.out]; exact N48.out, fun _ h => absurd (HC.out.symm.trans h) N46.out, fun _ _ => hu⟩, hkl, by omega, hd1⟩
            | false =>
              have N95 : Hid (c ≠ 95) := beq_f h95
              go_wp2_with fail
              go_meet
              case rel => exact ⟨rfl, k, d0, p0, z0, rfl, rfl, rfl, rfl, HR.out, ⟨fun _ => by rw [HC.out]; exact N48.out, fun _ h => absurd (HC.out.symm.trans h) N46.out, fun _ h => absurd (HC.out.symm.trans h) N95.out⟩, hkl, by omega, hd1⟩
      · go_wp2_with fail
        go_meet
        case rel => exact ⟨rfl, k, d0, p0, z0, rfl, rfl, rfl, rfl, HR.out, ⟨fun h => absurd h hlt, fun h => absurd h hlt, fun h => absurd h hlt⟩, hkl, by omega, hd1⟩
  case rest =>
  obtain ⟨rfl, first, d0, p0, z0, rfl, rfl, rfl, rfl, hrun, hef, hfl, hd0, hd1⟩ := hcut
  have HR : Hid (run s bs lim first = some (leadSt p0 z0 d0)) := hrun
  clear hrun
  go_upto_if 54 with fail
  go_cut [13] (fun l wx => l = .int .i64 (lim : Int) ∧ w = wx)
  case first =>
    cases h16 : (bs == 16) with
    | true =>
      go_wp2_with fail
      go_meet
      case rel => exact ⟨by rw [← HLM.out, limOf_16 h16]; rfl, rfl⟩
    | false =>
      go_wp2_with fail
      go_meet
      case rel => exact ⟨by rw [← HLM.out, limOf_10 h16]; rfl, rfl⟩
  case rest =>
  obtain ⟨rfl, rfl⟩ := hcut
  obtain ⟨q00, hq⟩ : ∃ q : Int, q = if p0 then 0 else -1 := ⟨_, rfl⟩
  have hM0 : Mn s bs lim z0 p0 d0 first first 0 0 q00 false := Mn.begin HR.out hfl q00 hq
  have HQ : Hid (q00 = if p0 then 0 else -1) := hq
  clear hq HR
  go_upto_if 56 with fail
  go_cut [17] (fun l wx => l = .int .i64 q00 ∧ w = wx)
  case first =>
    cases p0 with
    | true =>
      go_wp2_with fail
      go_meet
      case rel => exact ⟨by rw [HQ.out]; rfl, rfl⟩
    | false =>
      go_wp2_with fail
      go_meet
      case rel => exact ⟨by rw [HQ.out]; rfl, rfl⟩
  case rest =>
  obtain ⟨rfl, rfl⟩ := hcut
  clear HQ
  go_upto_block 3 with fail
  go_cut [9, 15, 16, 17, 18] (fun i x n q t wx => ∃ (k : Nat) (x0 : Int) (m : Nat) (q0 : Int) (t0 : Bool) (j : Nat), i = .int .i64 (k : Int) ∧ x = .int .u64 x0 ∧ n = .int .i64 (m : Int) ∧ q = .int .i64 q0 ∧ t = .bool t0 ∧ wx = w.drewN j ∧
      Ends s bs lim k (mainSt z0 d0 first x0 m q0 t0) ∧ k ≤ s.size ∧ m ≤ k ∧ -1 ≤ q0 ∧ q0 ≤ m ∧ (m = 0 → k = first))
  case first => as_aux_lemma =>
    go_wp2_with fail
    go_loopg [9, 15, 16, 17, 18] (s.size - first) (fun g i x n q t wx => ∃ (k : Nat) (x0 : Int) (m : Nat) (q0 : Int) (t0 : Bool) (j : Nat), g = s.size - k ∧ i = .int .i64 (k : Int) ∧ x = .int .u64 x0 ∧ n = .int .i64 (m : Int) ∧ q = .int .i64 q0 ∧ t = .bool t0 ∧ wx = w.drewN j ∧ Mn s bs lim z0 p0 d0 first k x0 m q0 t0)
    case atStart => exact ⟨first, 0, 0, q00, false, 0, rfl, rfl, rfl, rfl, rfl, rfl, rfl, hM0⟩
    case round =>
      obtain ⟨k, x0, m, q0, t0, j, hg, rfl, rfl, rfl, rfl, rfl, rfl, hM⟩ := hrel
      have hkl := hM.le
      have hmk := hM.nle
      have hq0 := hM.lo
      have hq1 := hM.hi
      go_upto_block 5 with fail
      go_cut [9, 15, 16] (fun i x n wx => ∃ (k' : Nat) (x' : Int) (m' : Nat) (j' : Nat), i = .int .i64 (k' : Int) ∧ x = .int .u64 x' ∧ n = .int .i64 (m' : Int) ∧ wx = w.drewN j' ∧ k ≤ k' ∧ Mn s bs lim z0 p0 d0 first k' x' m' q0 t0)
      case first => as_aux_lemma =>
        go_wp2_with fail
        go_loopg [9, 15, 16] (s.size - k) (fun g i x n wx => ∃ (k' : Nat) (x' : Int) (m' : Nat) (j' : Nat), g = s.size - k' ∧ i = .int .i64 (k' : Int) ∧ x = .int .u64 x' ∧ n = .int .i64 (m' : Int) ∧ wx = w.drewN j' ∧ k ≤ k' ∧ Mn s bs lim z0 p0 d0 first k' x' m' q0 t0)
        case atStart => exact ⟨k, x0, m, j, rfl, rfl, rfl, rfl, rfl, Nat.le_refl _, hM⟩
        case round =>
          clear hM hkl hmk
          obtain ⟨k', x', m', j', hg', rfl, rfl, rfl, rfl, hkk, hM'⟩ := hrel
          have hkl' := hM'.le
          have hmk' := hM'.nle
          cases h10 : (bs == 10) with
          | false =>
            go_wp2_with fail
            go_meet
            case rel => exact ⟨k', x', m', j', rfl, rfl, rfl, rfl, hkk, hM'⟩
          | true =>
            by_cases h8 : (m' : Int) + 8 ≤ (lim : Int)
            · by_cases hl8 : (8 : Int) ≤ (s.size : Int) - (k' : Int)
              · cases hE : isEightF ((word8 (s.extract k' s.size) : Nat) : Int) with
                | true =>
                  have hx8 : 8 ≤ (s.extract k' s.size).size := by rw [ByteArray.size_extract]; omega
                  go_wp2_with (first | (go_at_call 24; refine (load8_any _ _ hx8).mono ?_; rintro e w' ⟨rfl, nd, hw'⟩; subst hw') | (go_at_call 25; refine (isEight_any _ _).mono ?_; rintro e w' ⟨rfl, hw'⟩; subst hw') | (go_at_call 26; refine (eightVal_any _ _).mono ?_; rintro e w' ⟨rfl, hw'⟩; subst hw'))
                  go_roundg (s.size - (k' + 8))
                  case measure => omega
                  case rel => exact ⟨k' + 8, _, m' + 8, _, rfl, by go_num, rfl, by go_num, rfl, by omega, Mn.eight' hM' hef (beq_t h10) (by omega) (by omega) hE⟩
                | false =>
                  have hx8 : 8 ≤ (s.extract k' s.size).size := by rw [ByteArray.size_extract]; omega
                  go_wp2_with (first | (go_at_call 24; refine (load8_any _ _ hx8).mono ?_; rintro e w' ⟨rfl, nd, hw'⟩; subst hw') | (go_at_call 25; refine (isEight_any _ _).mono ?_; rintro e w' ⟨rfl, hw'⟩; subst hw'))
                  go_meet
                  case rel => exact ⟨k', x', m', _, rfl, rfl, rfl, rfl, hkk, hM'⟩
              · go_wp2_with fail
                go_meet
                case rel => exact ⟨k', x', m', j', rfl, rfl, rfl, rfl, hkk, hM'⟩
            · go_wp2_with fail
              go_meet
              case rel => exact ⟨k', x', m', j', rfl, rfl, rfl, rfl, hkk, hM'⟩
      case rest =>
      obtain ⟨k', x', m', j', rfl, rfl, rfl, rfl, hkk, hM'⟩ := hcut
      go_upto_block 7 with fail
      go_cut [9, 15, 16, 18] (fun i x n t wx => ∃ (k2 : Nat) (x2 : Int) (m2 : Nat) (t2 : Bool), i = .int .i64 (k2 : Int) ∧ x = .int .u64 x2 ∧ n = .int .i64 (m2 : Int) ∧ t = .bool t2 ∧ wx = w.drewN j' ∧ k ≤ k2 ∧ Mn s bs lim z0 p0 d0 first k2 x2 m2 q0 t2 ∧ (k2 < s.size → ¬ dvU (byteI s k2) < bs))
      case first => as_aux_lemma =>
        clear hM hkl hmk
        go_wp2_with fail
        go_loopg [9, 15, 16, 18] (s.size - k') (fun g i x n t wx => ∃ (k2 : Nat) (x2 : Int) (m2 : Nat) (t2 : Bool), g = s.size - k2 ∧ i = .int .i64 (k2 : Int) ∧ x = .int .u64 x2 ∧ n = .int .i64 (m2 : Int) ∧ t = .bool t2 ∧ wx = w.drewN j' ∧ k ≤ k2 ∧ Mn s bs lim z0 p0 d0 first k2 x2 m2 q0 t2)
        case atStart => exact ⟨k', x', m', t0, rfl, rfl, rfl, rfl, rfl, rfl, hkk, hM'⟩
        case round =>
          clear hM'
          obtain ⟨k2, x2, m2, t2, hg2, rfl, rfl, rfl, rfl, rfl, hk2, hM2⟩ := hrel
          have hkl2 := hM2.le
          have hmk2 := hM2.nle
          by_cases hlt : k2 < s.size
          · obtain ⟨c, hc⟩ : ∃ c, ((s[k2]'hlt).toNat : Int) = c := ⟨_, rfl⟩
            have HC : Hid (byteI s k2 = c) := by show _ = _; rw [← byteI_eq s k2 hlt]; exact hc
            have hcb : 0 ≤ c ∧ c < 256 := by rw [← HC.out]; exact byteI_lt s k2
            obtain ⟨hcb0, hcb1⟩ := hcb
            by_cases hdg : dvU c < bs
            · have HD := hM2.digit hef hlt (by rw [HC.out]; exact hdg)
              have HDh : Hid (Mn s bs lim z0 p0 d0 first (k2 + 1) (if m2 < lim then stepX bs x2 (dvU (byteI s k2)) else x2) (m2 + 1) q0 (if m2 < lim then t2 else (t2 || dvU (byteI s k2) != 0))) := HD
              clear HD
              by_cases hnl : (m2 : Int) < (lim : Int)
              · go_wp2_with (go_at_call 27; refine (digitValue_any _ _ hcb0 hcb1).mono ?_; rintro e w' ⟨rfl, hw'⟩; subst hw')
                go_roundg (s.size - (k2 + 1))
                case measure => omega
                case rel =>
                  refine ⟨k2 + 1, stepX bs x2 (dvU c), m2 + 1, t2, rfl, by go_num, rfl, by go_num, rfl, rfl, by omega, ?_⟩
                  have := HDh.out
                  rw [if_pos (by omega), if_pos (by omega), HC.out] at this
                  exact this
              · cases hv : (dvU c != 0) with
                | true =>
                  go_wp2_with (go_at_call 27; refine (digitValue_any _ _ hcb0 hcb1).mono ?_; rintro e w' ⟨rfl, hw'⟩; subst hw')
                  go_roundg (s.size - (k2 + 1))
                  case measure => omega
                  case rel =>
                    refine ⟨k2 + 1, x2, m2 + 1, true, rfl, by go_num, rfl, by go_num, rfl, rfl, by omega, ?_⟩
                    have := HDh.out
                    rw [if_neg (by omega), if_neg (by omega), HC.out, hv, Bool.or_true] at this
                    exact this
                | false =>
                  go_wp2_with (go_at_call 27; refine (digitValue_any _ _ hcb0 hcb1).mono ?_; rintro e w' ⟨rfl, hw'⟩; subst hw')
                  go_roundg (s.size - (k2 + 1))
                  case measure => omega
                  case rel =>
                    refine ⟨k2 + 1, x2, m2 + 1, t2, rfl, by go_num, rfl, by go_num, rfl, rfl, by omega, ?_⟩
                    have := HDh.out
                    rw [if_neg (by omega), if_neg (by omega), HC.out, hv, Bool.or_false] at this
                    exact this
            · go_wp2_with (go_at_call 27; refine (digitValue_any _ _ hcb0 hcb1).mono ?_; rintro e w' ⟨rfl, hw'⟩; subst hw')
              go_meet
              case rel => exact ⟨k2, x2, m2, t2, rfl, rfl, rfl, rfl, rfl, hk2, hM2, fun _ => by rw [HC.out]; omega⟩
          · go_wp2_with fail
            go_meet
            case rel => exact ⟨k2, x2, m2, t2, rfl, rfl, rfl, rfl, rfl, hk2, hM2, fun h => absurd h hlt⟩
      case rest => as_aux_lemma =>
      obtain ⟨k2, x2, m2, t2, rfl, rfl, rfl, rfl, rfl, hk2, hM2, hnd⟩ := hcut
      clear hM hM' hkl hmk
      have hkl2 := hM2.le
      have hmk2 := hM2.nle
      have hqm := hM2.hi
      cases heq : ((k2 : Int) == (s.size : Int)) with
      | true =>
        have HEQ : Hid (k2 = s.size) := by show _ = _; have := beq_t heq; omega
        go_wp2_with fail
        go_meet
        case rel => exact ⟨k2, x2, m2, q0, t2, j', rfl, rfl, rfl, rfl, rfl, rfl, hM2.full HEQ.out, hkl2, hmk2, hq0, hqm, fun h => (hM2.start h).1⟩
      | false =>
        have hlt : k2 < s.size := by have := beq_f heq; omega
        obtain ⟨c, hc⟩ : ∃ c, ((s[k2]'hlt).toNat : Int) = c := ⟨_, rfl⟩
        have HC : Hid (byteI s k2 = c) := by show _ = _; rw [← byteI_eq s k2 hlt]; exact hc
        have HND : Hid (¬ dvU (byteI s k2) < bs) := hnd hlt
        clear hnd
        cases h46 : (c == 46) with
        | true =>
          by_cases hqn : q0 < 0
          · go_wp2_with fail
            go_roundg (s.size - (k2 + 1))
            case measure => omega
            case rel => exact ⟨k2 + 1, x2, m2, (m2 : Int), t2, j', rfl, by go_num, rfl, rfl, rfl, rfl, rfl, hM2.dot hef hlt (HC.out.trans (beq_t h46)) hqn hb1⟩
          · have h95 : (c != 95) = true := by rw [beq_t h46]; rfl
            go_wp2_with fail
            go_meet
            case rel => exact ⟨k2, x2, m2, q0, t2, j', rfl, rfl, rfl, rfl, rfl, rfl, hM2.stop (by have := HND.out; omega) (fun _ => by omega) (fun h => by rw [HC.out, beq_t h46] at h; cases h), hkl2, hmk2, hq0, hqm, fun h => (hM2.start h).1⟩
        | false =>
          have N46 : Hid (c ≠ 46) := beq_f h46
          cases h95 : (c != 95) with
          | true =>
            have N95 : Hid (c ≠ 95) := bne_t h95
            go_wp2_with fail
            go_meet
            case rel => exact ⟨k2, x2, m2, q0, t2, j', rfl, rfl, rfl, rfl, rfl, rfl, hM2.stop (by have := HND.out; omega) (fun h => absurd (HC.out.symm.trans h) N46.out) (fun h => absurd (HC.out.symm.trans h) N95.out), hkl2, hmk2, hq0, hqm, fun h => (hM2.start h).1⟩
          | false =>
            have E95 : Hid (c = 95) := bne_f h95
            cases hu : us s bs k2 with
            | true =>
              go_wp2_with (go_at_call 23; refine (us_any s bs k2 _ hs hb0 hb1 hlt).mono ?_; rintro e w' ⟨rfl, hw'⟩; subst hw')
              go_roundg (s.size - (k2 + 1))
              case measure => omega
              case rel => exact ⟨k2 + 1, x2, m2, q0, t2, j', rfl, by go_num, rfl, rfl, rfl, rfl, rfl, hM2.uscore hef hlt (HC.out.trans E95.out) hu hb1⟩
            | false =>
              go_wp2_with (go_at_call 23; refine (us_any s bs k2 _ hs hb0 hb1 hlt).mono ?_; rintro e w' ⟨rfl, hw'⟩; subst hw')
              go_meet
              case rel => exact ⟨k2, x2, m2, q0, t2, j', rfl, rfl, rfl, rfl, rfl, rfl, hM2.stop (by have := HND.out; omega) (fun h => absurd (HC.out.symm.trans h) N46.out) (fun _ => hu), hkl2, hmk2, hq0, hqm, fun h => (hM2.start h).1⟩
  case rest => as_aux_lemma =>
  clear hM0 hef
  obtain ⟨k, x0, m, q0, t0, j, rfl, rfl, rfl, rfl, rfl, rfl, hE, hkl, hmk, hq0, hq1, hst⟩ := hcut
  have HE : Hid (Ends s bs lim k (mainSt z0 d0 first x0 m q0 t0)) := hE
  have HST : Hid (m = 0 → k = first) := hst
  clear hE hst
  obtain ⟨Q, hQ⟩ : ∃ Q : Int, Q = if 0 ≤ q0 then q0 else (m : Int) := ⟨_, rfl⟩
  have hQ0 : 0 ≤ Q := by rw [hQ]; split <;> omega
  have hQ1 : Q ≤ (m : Int) := by rw [hQ]; split <;> omega
  have HQ : Hid (Q = if 0 ≤ q0 then q0 else (m : Int)) := hQ
  clear hQ
  go_upto_if 141 with fail
  go_cut [17] (fun q wx => q = .int .i64 Q ∧ w.drewN j = wx)
  case first =>
    by_cases hqn : q0 < 0
    · go_wp2_with fail
      go_meet
      case rel => exact ⟨by rw [HQ.out, if_neg (by omega)], rfl⟩
    · go_wp2_with fail
      go_meet
      case rel => exact ⟨by rw [HQ.out, if_pos (by omega)], rfl⟩
  case rest =>
  obtain ⟨rfl, rfl⟩ := hcut
  have HROW : Hid (RowIs w bm #[c0, c1, c2, c3, c4, c5]) := hrow
  have e0 : w.cell? ⟨bm, 0, none⟩ = some c0 := hrow.cell 0 c0 rfl
  have e1 : w.cell? ⟨bm, 1, none⟩ = some c1 := hrow.cell 1 c1 rfl
  have e2 : w.cell? ⟨bm, 2, none⟩ = some c2 := hrow.cell 2 c2 rfl
  have f0 : w.frozen? ⟨bm, 0, none⟩ = false := hrow.frozen 0
  have f1 : w.frozen? ⟨bm, 1, none⟩ = false := hrow.frozen 1
  have f2 : w.frozen? ⟨bm, 2, none⟩ = false := hrow.frozen 2
  clear hrow
  go_upto_region 46 with fail
  go_cut [] (fun wx => RowIs wx bm #[.int .i64 (d0 + Q), .string (s.extract 0 k), .int .i64 (first : Int), c3, c4, c5] ∧ Only bm w wx)
  case first =>
    have hkI : (k : Int) ≤ (s.size : Int) := by omega
    go_region
    go_wp2_with fail
    go_meet
    case rel => exact ⟨((((HROW.out.drewN (j + 1)).set 0 _).set 1 _).set 2 _).to rfl, ((((Only.refl bm w).drewN (j + 1)).set 0 _).set 1 _).set 2 _⟩
  case rest =>
  obtain ⟨hR, hO⟩ := hcut
  have g3 : wc.cell? ⟨bm, 3, none⟩ = some c3 := hR.cell 3 c3 rfl
  have g4 : wc.cell? ⟨bm, 4, none⟩ = some c4 := hR.cell 4 c4 rfl
  have g5 : wc.cell? ⟨bm, 5, none⟩ = some c5 := hR.cell 5 c5 rfl
  have f3 : wc.frozen? ⟨bm, 3, none⟩ = false := hR.frozen 3
  have f4 : wc.frozen? ⟨bm, 4, none⟩ = false := hR.frozen 4
  have f5 : wc.frozen? ⟨bm, 5, none⟩ = false := hR.frozen 5
  have HRR : Hid (RowIs wc bm #[.int .i64 (d0 + Q), .string (s.extract 0 k), .int .i64 (first : Int), c3, c4, c5]) := hR
  clear hR e0 e1 e2 f0 f1 f2 HROW
  have hd : (mainSt z0 d0 first x0 m q0 t0).dp = d0 + Q := by show d0 + _ = _; rw [HQ.out]
  have hf : firstOf k (mainSt z0 d0 first x0 m q0 t0) = (first : Int) := mainSt_first _ _ _ _ _ _ _ _ HST.out
  have HD : Hid ((mainSt z0 d0 first x0 m q0 t0).dp = d0 + Q) := hd
  have HF : Hid (firstOf k (mainSt z0 d0 first x0 m q0 t0) = (first : Int)) := hf
  clear hd hf
  by_cases hml : (lim : Int) < (m : Int)
  · have HX : Hid (nxOf lim (mainSt z0 d0 first x0 m q0 t0) = (lim : Int)) := by show nxOf _ _ = _; unfold nxOf; exact if_pos hml
    cases z0 <;>
    (go_wp2_with fail
     try rw [Exit.noGoto_ret]
     go_ret2
     exact ⟨k, _, rfl, HE.out, (((HRR.out.set 3 _).set 4 _).set 5 _).to (by rw [HD.out, HF.out, HX.out]; rfl), ((hO.set 3 _).set 4 _).set 5 _⟩)
  · have HX : Hid (nxOf lim (mainSt z0 d0 first x0 m q0 t0) = (m : Int)) := by show nxOf _ _ = _; unfold nxOf; exact if_neg hml
    cases z0 <;>
    (go_wp2_with fail
     try rw [Exit.noGoto_ret]
     go_ret2
     exact ⟨k, _, rfl, HE.out, (((HRR.out.set 3 _).set 4 _).set 5 _).to (by rw [HD.out, HF.out, HX.out]; rfl), ((hO.set 3 _).set 4 _).set 5 _⟩)

end LawC
end Go.Proofs.Ybulkcdui
