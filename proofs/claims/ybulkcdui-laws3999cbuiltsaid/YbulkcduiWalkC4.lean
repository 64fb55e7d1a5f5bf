import Derived.Test.YbulkcduiWalkC3
import Derived.Test.YbulkcduiPlainC5
namespace Go.Proofs.Ybulkcdui
open Go.RowKit
namespace LawC

theorem beq_t {c k : Int} (h : (c == k) = true) : c = k := by simpa using h
theorem beq_f {c k : Int} (h : (c == k) = false) : c ≠ k := by simpa using h

theorem bne_t {c k : Int} (h : (c != k) = true) : c ≠ k := by simpa using h
theorem bne_f {c k : Int} (h : (c != k) = false) : c = k := by simpa using h

/-- How many digits x takes. -/
def limOf (bs : Int) : Nat := if bs = 16 then 15 else 19
theorem limOf_range (bs : Int) : 15 ≤ limOf bs ∧ limOf bs ≤ 19 := by unfold limOf; split <;> omega
theorem limOf_16 {bs : Int} (h : (bs == 16) = true) : limOf bs = 15 := by unfold limOf; rw [if_pos (beq_t h)]
theorem limOf_10 {bs : Int} (h : (bs == 16) = false) : limOf bs = 19 := by unfold limOf; rw [if_neg (beq_f h)]

/-! ### Eight bytes of what is left -/
theorem byteI_rest (s : ByteArray) (i j : Nat) (h : i + j < s.size) : byteI (s.extract i s.size) j = byteI s (i + j) := by
  have h1 : j < (s.extract i s.size).size := by rw [ByteArray.size_extract]; omega
  rw [← byteI_eq _ j h1, ← byteI_eq s (i + j) h]
  congr 2
  rw [ByteArray.getElem_extract]

theorem word8_rest (s : ByteArray) (i : Nat) (h : i + 8 ≤ s.size) :
    word8 (s.extract i s.size) = w8 (byteI s i).toNat (byteI s (i + 1)).toNat (byteI s (i + 2)).toNat (byteI s (i + 3)).toNat (byteI s (i + 4)).toNat (byteI s (i + 5)).toNat (byteI s (i + 6)).toNat (byteI s (i + 7)).toNat := by
  unfold word8 bN
  rw [byteI_rest s i 0 (by omega), byteI_rest s i 1 (by omega), byteI_rest s i 2 (by omega), byteI_rest s i 3 (by omega), byteI_rest s i 4 (by omega), byteI_rest s i 5 (by omega), byteI_rest s i 6 (by omega), byteI_rest s i 7 (by omega), Nat.add_zero]

theorem Mn.eight' {s : ByteArray} {bs : Int} {lim : Nat} {z p0 : Bool} {d0 : Int} {first i : Nat} {x : Int} {n : Nat} {nInt : Int} {tr : Bool} (h : Mn s bs lim z p0 d0 first i x n nInt tr) (e : Ef s bs p0 first) (hb : bs = 10) (hi : i + 8 ≤ s.size) (hn : n + 8 ≤ lim)
    (hw : isEightF ((word8 (s.extract i s.size) : Nat) : Int) = true) :
    Mn s bs lim z p0 d0 first (i + 8) (IntKind.u64.wrap (IntKind.u64.wrap (x * 100000000) + valF ((word8 (s.extract i s.size) : Nat) : Int))) (n + 8) nInt tr := by
  subst hb
  rw [word8_rest s i hi] at hw ⊢
  exact h.eight e hi hn hw

/-! ### The mantissa in memory -/
/-- The block bm holds these cells. -/
def RowIs (w : World) (bm : Nat) (arr : Array Value) : Prop := w.heap[bm]? = some (.cells arr 34 (0, 0))
theorem RowIs.cell {w : World} {bm : Nat} {arr : Array Value} (h : RowIs w bm arr) (i : Nat) (v : Value) (hv : arr[i]? = some v) : w.cell? ⟨bm, i, none⟩ = some v := by
  unfold RowIs at h
  simp [World.cell?, h, hv]
theorem RowIs.frozen {w : World} {bm : Nat} {arr : Array Value} (h : RowIs w bm arr) (i : Nat) : w.frozen? ⟨bm, i, none⟩ = false := by
  unfold RowIs at h
  simp [World.frozen?, h]
theorem RowIs.set {w : World} {bm : Nat} {arr : Array Value} (h : RowIs w bm arr) (i : Nat) (v : Value) : RowIs (w.setCell ⟨bm, i, none⟩ v) bm (arr.setIfInBounds i v) := by
  unfold RowIs at h ⊢
  simp [World.setCell, Array.getElem?_modify, h]
theorem RowIs.drew {w : World} {bm : Nat} {arr : Array Value} (h : RowIs w bm arr) : RowIs w.drew bm arr := h
theorem heap_drewN (w : World) (n : Nat) : (w.drewN n).heap = w.heap := by
  simp
theorem RowIs.drewN {w : World} {bm : Nat} {arr : Array Value} (h : RowIs w bm arr) (n : Nat) : RowIs (w.drewN n) bm arr := by
  unfold RowIs at h ⊢
  rw [heap_drewN]
  exact h

theorem RowIs.to {w : World} {bm : Nat} {arr arr' : Array Value} (h : RowIs w bm arr) (e : arr = arr') : RowIs w bm arr' := e ▸ h

/-- Nothing has turned but block bm. -/
structure Only (bm : Nat) (w w' : World) : Prop where
  os : w'.os = w.os
  output : w'.output = w.output
  size : w'.heap.size = w.heap.size
  block : ∀ k, k ≠ bm → w'.heap[k]? = w.heap[k]?
theorem Only.refl (bm : Nat) (w : World) : Only bm w w := ⟨rfl, rfl, rfl, fun _ _ => rfl⟩
theorem Only.set {bm : Nat} {w w' : World} (h : Only bm w w') (i : Nat) (v : Value) : Only bm w (w'.setCell ⟨bm, i, none⟩ v) :=
  ⟨h.os, h.output, by simp [World.setCell, h.size], fun k hk => by rw [Below.heap_setCell _ _ _ _ hk]; exact h.block k hk⟩
theorem Only.drew {bm : Nat} {w w' : World} (h : Only bm w w') : Only bm w w'.drew := ⟨h.os, h.output, h.size, h.block⟩
theorem Only.drewN {bm : Nat} {w w' : World} (h : Only bm w w') (n : Nat) : Only bm w (w'.drewN n) :=
  ⟨h.os, h.output, h.size, h.block⟩

end LawC
end Go.Proofs.Ybulkcdui
