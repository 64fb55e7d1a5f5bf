import Derived.Test.YbulkcduiWalkA1
namespace Go.Proofs.Ybulkcdui
open Go.RowKit
namespace LawA

def zs48 (n : Nat) : List Value := List.replicate n (.int .u8 48)
theorem zs48_succ (n : Nat) : zs48 (n + 1) = zs48 n ++ [.int .u8 48] := by
  unfold zs48
  rw [List.replicate_succ']

/-- What 'append(x, c)' lays for its one element. -/
theorem src_one (w : World) (n : Int) : Src Yba.prog 1 22 (.slice (some ⟨w.heap.size, 0, none⟩) 1 1) 1 [.int .u8 n] (w.alloc (.cells #[.int .u8 n] 5)) := by
  refine Src.ofSlice _ Yba.underlying22 ⟨w.heap.size, 0, none⟩ 1 1 [.int .u8 n] rfl ?_ ?_
  · intro j u hj
    match j, hj with
    | 0, hj => simp at hj; subst hj; simp [Addr.add]
  · intro u hu
    simp at hu
    subst hu
    rfl

set_option maxHeartbeats 800000 in
theorem zeros_nat (W : World) (ao : Option Addr) (b off len cap : Nat) (olds : List Value) (hc : Came W 1 ao b off len cap olds) (w : World) (v : Value) (m : Nat) (ks : List Value) (r : Nat)
    (hup : Upon W 5 1 ao b off len cap olds w v m ks r) (n : Nat) (hB : len + m + n ≤ 100000) :
    Calls Yba.prog 16 #[v, .int .i64 (n : Int)] w fun e w' => ∃ v' r', e = .returned v' ∧ Upon W 5 1 ao b off len cap olds w' v' (m + n) (ks ++ zs48 n) r' := by
  obtain ⟨i0, hi, hz0, hz1, hz2⟩ := info_parts Yba.info5
  go_enter Yba.func16, Yba.ntmps16
  go_wp2
  go_loopg [0, 1] n (fun g d c wr => ∃ j rr, g = n - j ∧ j ≤ n ∧ c = .int .i64 ((n - j : Nat) : Int) ∧ Upon W 5 1 ao b off len cap olds wr d (m + j) (ks ++ zs48 j) rr)
  case atStart => exact ⟨0, r, rfl, Nat.zero_le _, rfl, by simpa [zs48] using hup⟩
  case round =>
    obtain ⟨j, rr, hk, hj, rfl, hupr⟩ := hrel
    by_cases hlt : j < n
    · have hpos : (0 : Int) < ((n - j : Nat) : Int) := by omega
      go_wp2_with (at_builtin; refine wpList_append_upon _ rfl (.tmp 9) (.tmp 10) 22 22 rfl hc i0 (.int .u8 0) 1 Yba.underlying22 hi hz0 hz1 hz2 rfl rfl (hupr.alloc hc _) _ 1 [.int .u8 48] rfl (src_one _ _) (by unfold maxLen; omega) (by omega) ?_)
      intro v' w' hup'
      go_wp2
      go_roundg (n - (j + 1))
      case measure => omega
      case rel =>
        refine ⟨j + 1, Upon.next len cap 1 (m + j) rr 1, rfl, by omega, ?_, ?_⟩
        · congr 1; omega
        · rw [zs48_succ, ← Nat.add_assoc]
          exact hup'
    · obtain rfl : j = n := by omega
      go_wp2
      go_ret
      exact ⟨_, _, rfl, hupr⟩

/-- The number as it stands in the slot. -/
theorem zeros_any (W : World) (ao : Option Addr) (b off len cap : Nat) (olds : List Value) (hc : Came W 1 ao b off len cap olds) (w : World) (v : Value) (m : Nat) (ks : List Value) (r : Nat)
    (hup : Upon W 5 1 ao b off len cap olds w v m ks r) (z : Int) (n : Nat) (hz : z = (n : Int)) (hB : len + m + n ≤ 100000) :
    Calls Yba.prog 16 #[v, .int .i64 z] w fun e w' => ∃ v' r', e = .returned v' ∧ Upon W 5 1 ao b off len cap olds w' v' (m + n) (ks ++ zs48 n) r' := by
  subst hz
  exact zeros_nat W ao b off len cap olds hc w v m ks r hup n hB

def cells (l : List Int) : List Value := l.map (Value.int .u8)
theorem cells_append (l m : List Int) : cells (l ++ m) = cells l ++ cells m := List.map_append
theorem cells_length (l : List Int) : (cells l).length = l.length := List.length_map _
theorem cells_zs (n : Nat) : cells (List.replicate n 48) = zs48 n := by unfold cells zs48; rw [List.map_replicate]
theorem cells_one (c : Int) : cells [c] = [.int .u8 c] := rfl

theorem cells_oneCell (l : List Int) : ∀ u ∈ cells l, u.oneCell' = true := by
  intro u hu
  obtain ⟨x, _, rfl⟩ := List.mem_map.1 hu
  rfl

/-- The slice's head, as what append takes. -/
theorem src_take {w : World} {a : Option Addr} {b o len cap : Nat} {ds : List Int} (h : Reads w a b o len cap ds) (n c : Nat) (hn : n ≤ len) : Src Yba.prog 1 22 (.slice a n c) n (cells (ds.take n)) w := by
  have hl := h.len_eq
  have hL : (cells (ds.take n)).length = n * 1 := by rw [cells_length, List.length_take]; omega
  cases a with
  | none =>
    obtain rfl : n = 0 := by
      rcases Nat.eq_zero_or_pos n with h0 | h0
      · exact h0
      · exact absurd (h.addr (by omega)) (by simp)
    exact Src.ofNil w Yba.underlying22 c
  | some x =>
    refine Src.ofSlice w Yba.underlying22 x n c _ hL ?_ (cells_oneCell _)
    intro j u hj
    have hjn : j < n := by
      have := (List.getElem?_eq_some_iff.1 hj).1
      omega
    obtain rfl : x = ⟨b, o, none⟩ := by simpa using h.addr (by omega)
    have hc := h.cells j (by omega)
    rw [Addr.add_lit, hc, ← hj]
    unfold cells
    rw [List.getElem?_map, List.getElem?_take_of_lt hjn, List.getD_eq_getElem?_getD, List.getElem?_eq_getElem (by omega)]
    rfl

theorem src_mid {w : World} {a : Option Addr} {b o len cap : Nat} {ds : List Int} (h : Reads w a b o len cap ds) (i n c : Nat) (hn : i + n ≤ len) : Src Yba.prog 1 22 (.slice (some ⟨b, o + i, none⟩) n c) n (cells ((ds.drop i).take n)) w := by
  have hl := h.len_eq
  have hL : (cells ((ds.drop i).take n)).length = n * 1 := by rw [cells_length, List.length_take, List.length_drop]; omega
  refine Src.ofSlice w Yba.underlying22 _ n c _ hL ?_ (cells_oneCell _)
  intro j u hj
  have hjn : j < n := by
    have := (List.getElem?_eq_some_iff.1 hj).1
    omega
  have hc := h.cells (i + j) (by omega)
  rw [Addr.add_lit, Nat.add_assoc, hc, ← hj]
  unfold cells
  rw [List.getElem?_map, List.getElem?_take_of_lt hjn, List.getElem?_drop, List.getD_eq_getElem?_getD, List.getElem?_eq_getElem (by omega)]
  rfl

/-- The same, its length as the walk writes it. -/
theorem src_mid' {w : World} {a : Option Addr} {b o len cap : Nat} {ds : List Int} (h : Reads w a b o len cap ds) (i n c : Nat) (hn : i + n ≤ len) : Src Yba.prog 1 22 (.slice (some ⟨b, o + i, none⟩) (i + n - i) c) n (cells ((ds.drop i).take n)) w := by
  rw [Nat.add_sub_cancel_left]
  exact src_mid h i n c hn

/-- What is read is read as before, as long as what is written lies elsewhere. -/
theorem reads_upon {W w : World} {a ao : Option Addr} {xb xo xl xc b off len cap N m r : Nat} {ds : List Int} {olds ks : List Value} {v : Value} (h : Reads W a xb xo xl xc ds) (hup : Upon W 5 1 ao b off len cap olds w v m ks r)
    (hap : ∀ j t, j < xl → t < N → ¬ (xb = b ∧ xo + j = off + len + t)) (hN : m ≤ N) : Reads w a xb xo xl xc ds :=
  ⟨h.len_eq, h.le, h.addr, fun i hi => (hup.old (World.block_lt_of_cell? _ _ (h.cells i hi)) (fun t ht he => hap i t hi (by have := hup.rLe; have := hup.ksLen; omega) (by simpa using he))).trans (h.cells i hi)⟩

end LawA
end Go.Proofs.Ybulkcdui
