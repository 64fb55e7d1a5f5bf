import Derived.Test.YbulkcduiWalkA6
import Derived.Test.YbulkcduiWalkC4
namespace Go.Proofs.Ybulkcdui
open Go.RowKit
open LawA (Reads Since cells IsRow conv_any isRow_reads zcells cells_length wpList_make_bytes)
namespace LawC

theorem cbase_any (x : Bool) (w : World) : Calls Yba.prog 14 #[.bool x] w fun e w' => e = .returned (.int .i64 (if x then 16 else 10)) ∧ w' = w := by
  cases x with
  | true =>
    go_enter Yba.func14, Yba.ntmps14
    go_wp2
    go_ret
    exact ⟨rfl, rfl⟩
  | false =>
    go_enter Yba.func14, Yba.ntmps14
    go_wp2
    go_ret
    exact ⟨rfl, rfl⟩

/-- The bytes of which the texts are built. -/
def tabS : ByteArray := ⟨#[48, 48, 48, 48, 48, 48, 48, 49, 50, 51, 52, 53, 54, 55, 56, 57, 97, 98, 99, 100, 101, 102, 65, 66, 67, 68, 69, 70, 46, 46, 95, 95, 120, 112, 45]⟩
def goodB (c : Int) : Prop := ∃ i, i < 35 ∧ c = byteI tabS i
theorem goodB_range {c : Int} (h : goodB c) : 0 ≤ c ∧ c < 256 := by
  obtain ⟨i, _, rfl⟩ := h
  exact byteI_lt tabS i

theorem row_store {w : World} {g : Nat} {L : List Int} (h : w.heap[g]? = some (.cells (cells L).toArray 5 (0, 0))) (k : Nat) (v : Int) : (w.setCell ⟨g, k, none⟩ (.int .u8 v)).heap[g]? = some (.cells (cells (L.set k v)).toArray 5 (0, 0)) := by
  have e : (cells L).toArray.setIfInBounds k (.int .u8 v) = (cells (L.set k v)).toArray := by
    rw [List.setIfInBounds_toArray]
    unfold cells
    rw [List.map_set]
  rw [← e]
  simp [World.setCell, Array.getElem?_modify, h]

theorem reads_row {w : World} {g n : Nat} {l : List Int} (h : w.heap[g]? = some (.cells (cells l).toArray 5 (0, 0))) (hn : l.length = n) : Reads w (some ⟨g, 0, none⟩) g 0 n n l := by
  refine ⟨hn, Nat.le_refl _, fun _ => rfl, fun i hi => ?_⟩
  rw [Nat.zero_add, LawA.cell_of_row h]
  unfold cells
  rw [List.getElem?_map, List.getD_eq_getElem?_getD, List.getElem?_eq_getElem (by omega)]
  rfl

theorem byteI_str (L : List Int) (k : Nat) (hk : k < L.length) (hb : 0 ≤ L.getD k 0 ∧ L.getD k 0 < 256) : byteI (strOfNums L) k = L.getD k 0 := by
  have h1 : k < (strOfNums L).size := by rw [strOfNums_size]; exact hk
  rw [← byteI_eq _ k h1]
  have e : (strOfNums L)[k]'h1 = UInt8.ofNat (L[k]'hk).toNat := by
    show (strOfNums L).data[k]'_ = _
    simp [strOfNums]
  rw [e, List.getD_eq_getElem?_getD, List.getElem?_eq_getElem hk] at *
  simp only [Option.getD_some] at hb ⊢
  rw [UInt8.toNat_ofNat']
  omega

theorem getD_set (L : List Int) (k j : Nat) (v : Int) (hk : k < L.length) : (L.set k v).getD j 0 = if j = k then v else L.getD j 0 := by
  rw [List.getD_eq_getElem?_getD, List.getElem?_set]
  by_cases h : k = j
  · subst h; simp [hk]
  · rw [if_neg h, if_neg (fun e => h e.symm), List.getD_eq_getElem?_getD]

theorem since_store {B g k : Nat} {w w' : World} (h : Since B w w') (hg : B ≤ g) (v : Value) : Since B w (w'.setCell ⟨g, k, none⟩ v) :=
  ⟨h.os, h.output, by simp [World.setCell]; exact h.size, fun i hi => by rw [Below.heap_setCell _ _ _ _ (by show i ≠ g; omega)]; exact h.block i hi⟩

set_option maxHeartbeats 800000 in
theorem cbuild_any (a : Option Addr) (b o len cap : Nat) (ds : List Int) (w : World) (h : Reads w a b o len cap ds) (hl : len ≤ 4096) (hds : ∀ i, i < len → 0 ≤ ds.getD i 0 ∧ ds.getD i 0 ≤ 255) :
    Calls Yba.prog 13 #[.slice a len cap] w fun e w' => ∃ s : ByteArray, e = .returned (.string s) ∧ s.size = len ∧ (∀ k, k < len → goodB (byteI s k)) ∧ Since w.heap.size w w' := by
  have hb : 0 < len → b < w.heap.size := fun h0 => h.lt h0
  go_enter Yba.func13, Yba.ntmps13
  go_upto_region 2 with (at_make; refine wpList_make_bytes _ rfl _ _ rfl _ _ _ _ len len rfl rfl rfl rfl (by omega) (by omega) ?_; intro W1 hW1 hsz hbel)
  have hW : W1.heap[w.heap.size]? = some (.cells (cells (List.replicate len 0)).toArray 5 (0, 0)) := by
    rw [hW1]
    unfold zcells cells
    rw [List.map_replicate]
  have hs1 : Since w.heap.size w W1 := Since.of_below hbel
  clear hW1 hsz hbel
  go_wp2_with fail
  go_loopg [4] len (fun g i wr => ∃ k : Nat, g = len - k ∧ k ≤ len ∧ i = .int .i64 (k : Int) ∧ ∃ L : List Int, L.length = len ∧ wr.heap[w.heap.size]? = some (.cells (cells L).toArray 5 (0, 0)) ∧ Since w.heap.size w wr ∧ ∀ j, j < k → goodB (L.getD j 0))
  case atStart => exact ⟨0, rfl, Nat.zero_le _, rfl, List.replicate len 0, List.length_replicate, hW, hs1, fun j hj => absurd hj (Nat.not_lt_zero _)⟩
  case round =>
    clear hW hs1
    obtain ⟨k, hg, hk, rfl, L, hL, hrow, hs, hgood⟩ := hrel
    have HL : Hid (L.length = len) := hL
    clear hL
    by_cases hlt : k < len
    · have hc : wr.cell? ⟨b, o + k, none⟩ = some (.int .u8 (ds.getD k 0)) := (h.since hs hb).cells k hlt
      obtain rfl := h.addr (by omega)
      obtain ⟨p, hp⟩ : ∃ p, ds.getD k 0 = p := ⟨_, rfl⟩
      have hp' := hds k hlt
      rw [hp] at hc hp'
      obtain ⟨hp0, hp1⟩ := hp'
      have hcw : wr.cell? ⟨w.heap.size, k, none⟩ = some (.int .u8 (L.getD k 0)) := by
        have := (reads_row hrow HL.out).cells k hlt
        rwa [Nat.zero_add] at this
      have hfw : wr.frozen? ⟨w.heap.size, k, none⟩ = false := LawA.frozen_of_row hrow k
      have HROW : Hid (wr.heap[w.heap.size]? = some (.cells (cells L).toArray 5 (0, 0))) := hrow
      have HG : Hid (∀ j, j < k → goodB (L.getD j 0)) := hgood
      clear hrow h hp hgood
      have hm35 : 0 ≤ p % 35 ∧ p % 35 < 35 := by omega
      go_wp2_with fail
      go_roundg (len - (k + 1))
      case measure => omega
      case rel =>
        refine ⟨k + 1, rfl, by omega, by go_num, L.set k _, by rw [List.length_set]; exact HL.out, row_store HROW.out k _, since_store hs (Nat.le_refl _) _, ?_⟩
        intro j hj
        rw [getD_set L k j _ (by rw [HL.out]; exact hlt)]
        by_cases e : j = k
        · rw [if_pos e]
          exact ⟨(p % 35).toNat, by omega, byteI_eq tabS _ (show _ < 35 by omega)⟩
        · rw [if_neg e]
          exact HG.out j (by omega)
    · obtain rfl : k = len := by omega
      have hconv := conv_any (reads_row hrow HL.out)
      clear hrow
      go_wp2_with fail
      go_ret
      exact ⟨_, rfl, by rw [strOfNums_size]; exact HL.out, fun j hj => by rw [byteI_str L j (by rw [HL.out]; exact hj) (goodB_range (hgood j hj))]; exact hgood j hj, hs⟩

end LawC
end Go.Proofs.Ybulkcdui
