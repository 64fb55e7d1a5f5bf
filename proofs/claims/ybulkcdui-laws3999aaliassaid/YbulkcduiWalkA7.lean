import Derived.Test.YbulkcduiWalkA6
namespace Go.Proofs.Ybulkcdui
open Go.RowKit
namespace LawA

theorem Yba.size5 : (Yba.prog.info? 5).map (·.size) = some 1 := by kernel_rfl

theorem splice_all (n : Nat) (l : List Int) (h : l.length = n) : splice (zcells n) 0 (cells l) = cells l := by
  unfold splice zcells
  rw [List.take_zero, List.nil_append, Nat.zero_add, cells_length, h, List.drop_eq_nil_of_le (by simp), List.append_nil]

/-- What copy wants to know of its source. -/
theorem copy_src {w : World} {a : Option Addr} {b o len cap : Nat} {ds : List Int} (h : Reads w a b o len cap ds) (hp : 0 < (cells ds).length) : ∃ ad, a = some ad ∧ ∀ j v, (cells ds)[j]? = some v → w.cell? (ad.add j) = some v := by
  have hl := h.len_eq
  rw [cells_length] at hp
  refine ⟨_, h.addr (by omega), fun j v hj => ?_⟩
  have hjn : j < ds.length := by
    have := (List.getElem?_eq_some_iff.1 hj).1
    rwa [cells_length] at this
  rw [Addr.add_lit, h.cells j (by omega), ← hj]
  unfold cells
  rw [List.getElem?_map, List.getD_eq_getElem?_getD, List.getElem?_eq_getElem hjn]
  rfl

theorem came_row {w : World} {g n : Nat} {l : List Int} (h : w.heap[g]? = some (.cells (cells l).toArray 5 (0, 0))) (hn : l.length = n) : Came w 1 (some ⟨g, 0, none⟩) g 0 n n (cells l) := by
  refine ⟨Nat.le_refl _, fun _ => rfl, fun _ => ?_, by rw [cells_length]; omega, fun j u hu => ?_, fun j hj => by omega⟩
  · exact (Array.getElem?_eq_some_iff.1 h).1
  · rw [Nat.zero_add, cell_of_row h, hu]

theorem reads_row {w : World} {g n : Nat} {l : List Int} (h : w.heap[g]? = some (.cells (cells l).toArray 5 (0, 0))) (hn : l.length = n) : Reads w (some ⟨g, 0, none⟩) g 0 n n l := by
  refine ⟨hn, Nat.le_refl _, fun _ => rfl, fun i hi => ?_⟩
  rw [Nat.zero_add, cell_of_row h]
  unfold cells
  rw [List.getElem?_map, List.getD_eq_getElem?_getD, List.getElem?_eq_getElem (by omega)]
  rfl

set_option maxHeartbeats 1600000 in
theorem model_in (a0 : Option Addr) (b0 o0 len0 cap0 : Nat) (dst : List Int) (a1 : Option Addr) (b1 o1 len1 cap1 : Nat) (ds : List Int) (dp prec : Int) (w : World) (h0 : Reads w a0 b0 o0 len0 cap0 dst) (h1 : Reads w a1 b1 o1 len1 cap1 ds)
    (hl0 : len0 ≤ 1024) (hl1 : len1 ≤ 1024) (hd0 : -400 ≤ dp) (hd1 : dp ≤ 400) (hp : prec ≤ 400) (hp0 : -9223372036854775808 ≤ prec) :
    Calls Yba.prog 3 #[.slice a0 len0 cap0, .slice a1 len1 cap1, .int .i64 dp, .int .i64 prec] w fun e w' => e = .returned (.bool true) ∧ Since w.heap.size w w' := by
  have HL0 : Hid (dst.length = len0) := h0.len_eq
  have HL1 : Hid (ds.length = len1) := h1.len_eq
  have hb0 : 0 < len0 → b0 < w.heap.size := fun h => h0.lt h
  have hb1 : 0 < len1 → b1 < w.heap.size := fun h => h1.lt h
  go_enter Yba.func3, Yba.ntmps3
  go_upto_region 4 with (at_make; refine wpList_make_bytes _ rfl _ _ rfl _ _ _ _ len0 len0 rfl rfl rfl rfl (by omega) (by omega) ?_; intro W1 hW1 hsz1 hbel1)
  have hs1 : Since w.heap.size w W1 := Since.of_below hbel1
  have h01 : Reads W1 a0 b0 o0 len0 cap0 dst := h0.since hs1 hb0
  clear hbel1
  go_upto_region 5 with (refine wpList_copy_splice rfl (.tmp 36) (.tmp 37) 22 22 rfl 5 Yba.underlying22 Yba.size5 _ _ _ _ _ _ rfl rfl w.heap.size 0 (zcells len0) 5 hW1 (cells dst) (by rw [cells_length, HL0.out]; exact (Nat.min_self _).symm) (fun hp => ⟨rfl, copy_src h01 hp⟩) (by rw [cells_length, HL0.out]; simp [zcells]) (cells_oneCell _) w.heap.size W1 (Below.refl _ _) (Nat.le_refl _) ?_; intro w2 hrow2 hbel2)
  have HR2 : Hid (w2.heap[w.heap.size]? = some (.cells (cells dst).toArray 5 (0, 0))) := by rw [splice_all _ _ HL0.out] at hrow2; exact hrow2
  have hs2 : Since w.heap.size w w2 := hs1.trans (Since.of_below hbel2)
  have hz2 : w.heap.size < w2.heap.size := by have := hbel2.size; omega
  clear hrow2 hbel2 hW1 hsz1 h01
  go_upto_region 6 with (at_make; refine wpList_make_bytes _ rfl _ _ rfl _ _ _ _ len1 len1 rfl rfl rfl rfl (by omega) (by omega) ?_; intro W3 hW3 hsz3 hbel3)
  have hs3 : Since w2.heap.size w2 W3 := Since.of_below hbel3
  have hs03 : Since w.heap.size w W3 := hs2.trans (hs3.mono (by omega))
  have h13 : Reads W3 a1 b1 o1 len1 cap1 ds := h1.since hs03 hb1
  clear hbel3
  go_upto_region 7 with (refine wpList_copy_splice rfl (.tmp 42) (.tmp 43) 22 22 rfl 5 Yba.underlying22 Yba.size5 _ _ _ _ _ _ rfl rfl w2.heap.size 0 (zcells len1) 5 hW3 (cells ds) (by rw [cells_length, HL1.out]; exact (Nat.min_self _).symm) (fun hp => ⟨rfl, copy_src h13 hp⟩) (by rw [cells_length, HL1.out]; simp [zcells]) (cells_oneCell _) w2.heap.size W3 (Below.refl _ _) (Nat.le_refl _) ?_; intro w4 hrow4 hbel4)
  have hs4 : Since w2.heap.size w2 w4 := hs3.trans (Since.of_below hbel4)
  have hs04 : Since w.heap.size w w4 := hs2.trans (hs4.mono (by omega))
  have hz4 : w2.heap.size < w4.heap.size := by have := hbel4.size; omega
  have hc4 : Came w4 1 (some ⟨w.heap.size, 0, none⟩) w.heap.size 0 len0 len0 (cells dst) := came_row ((hs4.block _ hz2).trans HR2.out) HL0.out
  have hg4 : Reads w4 (some ⟨w2.heap.size, 0, none⟩) w2.heap.size 0 len1 len1 ds := by
    rw [splice_all _ _ HL1.out] at hrow4
    exact reads_row hrow4.out HL1.out
  clear hrow4 hbel4 hW3 hsz3 h13 HR2
  have hapart : ∀ N : Nat, ∀ j t, j < len1 → t < N → ¬ (w2.heap.size = w.heap.size ∧ 0 + j = 0 + len0 + t) := fun N j t _ _ h => by omega
  have hapos := appPart_pos ds dp prec
  go_upto_region 8 with (go_at_call 8; refine (appendF_any _ _ _ _ _ _ _ hc4 _ _ _ _ _ _ hg4 _ _ (hapart _) (by omega) (by omega) (by omega) (by omega) (by omega) (by omega) (by omega)).mono ?_; rintro e w5 ⟨v5, rfl, r5, hup5⟩; obtain ⟨ag, bg, og, cg, hv5, hgot, hbg⟩ := reads_of_upon hc4 hup5 (.inr hapos); subst hv5)
  have hs05 : Since w.heap.size w w5 := hs04.trans (Since.of_upon hup5 (Nat.le_refl _) (by omega))
  have h05 : Reads w5 a0 b0 o0 len0 cap0 dst := h0.since hs05 hb0
  have h15 : Reads w5 a1 b1 o1 len1 cap1 ds := h1.since hs05 hb1
  have hg5 : Reads w5 (some ⟨w2.heap.size, 0, none⟩) w2.heap.size 0 len1 len1 ds := reads_upon hg4 hup5 (hapart _) (Nat.le_refl _)
  have hz5 : w2.heap.size < w5.heap.size := by have := hup5.kept.size; omega
  clear hup5 hc4 hg4
  go_upto_region 9 with (go_at_call 9; refine (amodel_any _ _ _ _ _ _ _ h05 _ _ _ _ _ _ h15 _ _ (by omega) (by omega) (by omega) (by omega) (by omega) (by omega)).mono ?_; rintro e w6 ⟨v6, rfl, am, bm, om, cm, hv6, hwant, hbm, hs6⟩; subst hv6)
  have hs06 : Since w.heap.size w w6 := hs05.trans (hs6.mono (by omega))
  have hgot6 := hgot.since hs6 (fun h => hgot.lt h)
  have hg6 := hg5.since hs6 (fun _ => hz5)
  have h16 : Reads w6 a1 b1 o1 len1 cap1 ds := h1.since hs06 hb1
  clear hgot hg5 h05 h15 hs6
  have HE : Hid (dst ++ appPart ds dp prec = dst ++ modPart ds dp prec) := by show _ = _; rw [app_eq_mod]
  go_wp2_with (first | (go_at_call_of 10 am; refine (equal_same hgot6 hwant HE.out).mono ?_; rintro e w7 ⟨rfl, hw7⟩; subst hw7) | (go_at_call_of 10 a1; refine (equal_same hg6 h16 rfl).mono ?_; rintro e w8 ⟨rfl, hw8⟩; subst hw8))
  go_ret
  exact ⟨rfl, hs06⟩

end LawA
end Go.Proofs.Ybulkcdui
