import Derived.Test.YbulkcduiWalkA3
import Derived.Laws.MakeOwn
namespace Go.Proofs.Ybulkcdui
open Go.RowKit
namespace LawA

theorem at_any (a : Option Addr) (b o len cap : Nat) (ds : List Int) (p : Int) (w : World) (h : Reads w a b o len cap ds) (hl : len ≤ 100000) :
    Calls Yba.prog 17 #[.slice a len cap, .int .i64 p] w fun e w' => e = .returned (.int .u8 (digAt ds p)) ∧ w' = w := by
  by_cases hp : p < 0 ∨ (len : Int) ≤ p
  · rw [digAt_out ds p (by rw [h.len_eq]; exact hp)]
    exact at_out a len cap p w hp hl
  · obtain ⟨i, rfl⟩ : ∃ i : Nat, p = (i : Int) := ⟨p.toNat, by omega⟩
    exact at_in a b o len cap ds i w h (by omega) hl

def zcells (n : Nat) : List Value := List.replicate n (.int .u8 0)

theorem made_eq (n : Nat) : madeCells #[Value.int .u8 0] n = (zcells n).toArray := by
  apply Array.ext
  · simp [madeCells, zcells]
  · intro i h1 h2
    simp [madeCells, zcells, Nat.mod_one]

/-- 'make([]byte, l, c)': a new block of zeros. -/
theorem wpList_make_bytes (w : World) {ops : Array Oper} {rest : List Oper} {o : Oper} {a : Act} {Q : Exit → Act → World → Prop}
    (hg : o.guard = none) (l c : Operand) (hop : o.op = Op.makeSlice 22 l c) (kl kc : IntKind) (L C : Int) (ln n : Nat) (hl : a.eval l = .int kl L) (hc : a.eval c = .int kc C) (hL : L = (ln : Int)) (hC : C = (n : Int)) (hle : ln ≤ n) (hn : n ≤ 100000)
    (hK : ∀ W1, W1.heap[w.heap.size]? = some (.cells (zcells n).toArray 5 (0, 0)) → W1.heap.size = w.heap.size + 1 → Below w.heap.size w W1 → wpList Yba.prog ops Q rest (a.put o.dst (.slice (some ⟨w.heap.size, 0, none⟩) ln n)) W1) :
    wpList Yba.prog ops Q (o :: rest) a w := by
  obtain ⟨i0, hi, hz0, hz1, hz2⟩ := info_parts Yba.info5
  refine wpList_plain hg fun K hK' => ?_
  subst hL; subst hC
  have hrun := run_make (P := Yba.prog) w 22 5 i0 (.int .u8 0) Yba.underlying22 hi hz0 kl kc (ln : Int) (n : Int) (by omega) (by omega) (by rw [hz2]; omega) (by omega)
  simp only [Int.toNat_natCast, hz1, Nat.mul_one] at hrun
  rw [show (Value.int .u8 0).cells = #[Value.int .u8 0] from rfl, made_eq] at hrun
  unfold Oper.wp
  simp [execOp, hop, hl, hc, hrun, Result.andThen]
  refine hK' _ _ (hK _ ?_ ?_ ?_)
  · show (w.heap.push _)[w.heap.size]? = _
    simp
  · simp
  · exact (Below.refl _ _).alloc (Nat.le_refl _) _

theorem cell_of_row {w : World} {g : Nat} {l : List Value} {t : TypeId} (h : w.heap[g]? = some (.cells l.toArray t (0, 0))) (j : Nat) : w.cell? ⟨g, j, none⟩ = l[j]? := by
  simp [World.cell?, h]

theorem frozen_of_row {w : World} {g : Nat} {l : List Value} {t : TypeId} (h : w.heap[g]? = some (.cells l.toArray t (0, 0))) (j : Nat) : w.frozen? ⟨g, j, none⟩ = false := by
  simp [World.frozen?, h]

theorem src_all {w : World} {a : Option Addr} {b o len cap : Nat} {ds : List Int} (h : Reads w a b o len cap ds) : Src Yba.prog 1 22 (.slice a len cap) len (cells ds) w := by
  have := src_take h len cap (Nat.le_refl _)
  rwa [List.take_of_length_le (by rw [h.len_eq]; exact Nat.le_refl _)] at this

/-- Below block number B nothing has turned (the tape left out). -/
structure Since (B : Nat) (w w' : World) : Prop where
  os : w'.os = w.os
  output : w'.output = w.output
  size : w.heap.size ≤ w'.heap.size
  block : ∀ k, k < B → w'.heap[k]? = w.heap[k]?

theorem Since.refl (B : Nat) (w : World) : Since B w w := ⟨rfl, rfl, Nat.le_refl _, fun _ _ => rfl⟩
theorem Since.trans {B : Nat} {a b c : World} (h : Since B a b) (k : Since B b c) : Since B a c :=
  ⟨k.os.trans h.os, k.output.trans h.output, Nat.le_trans h.size k.size, fun i hi => (k.block i hi).trans (h.block i hi)⟩
theorem Since.mono {B B' : Nat} {w w' : World} (h : Since B w w') (hB : B' ≤ B) : Since B' w w' := ⟨h.os, h.output, h.size, fun k hk => h.block k (Nat.lt_of_lt_of_le hk hB)⟩
theorem Since.of_below {B : Nat} {w w' : World} (h : Below B w w') : Since B w w' := ⟨h.os, h.output, h.size, h.block⟩
theorem Since.cell {B : Nat} {w w' : World} (h : Since B w w') {p : Addr} (hp : p.block < B) : w'.cell? p = w.cell? p := World.cell?_of_block (w := w) (h.block p.block hp)
theorem Since.frozen {B : Nat} {w w' : World} (h : Since B w w') {p : Addr} (hp : p.block < B) : w'.frozen? p = w.frozen? p := World.frozen?_of_block (w := w) (h.block p.block hp)
theorem Since.frame {W w' : World} (h : Since W.heap.size W w') (may : MemPlace → Prop) : W.keptBut w' may := by
  refine ⟨h.os, h.output, fun i hi => ?_⟩
  rw [h.block i hi]
  split <;> simp_all
theorem Since.same {W w' : World} (h : Since W.heap.size W w') {p : MemPlace} (hp : p.block < W.heap.size) : W.sameAt w' p := by
  cases p with
  | cell b o => exact World.cell?_of_block (w := W) (h.block b hp)
  | map b => exact h.block b hp
theorem Since.of_upon {W w : World} {ao : Option Addr} {b off len cap m r B : Nat} {olds ks : List Value} {v : Value} (hup : Upon W 5 1 ao b off len cap olds w v m ks r) (hb : B ≤ b) (hB : B ≤ W.heap.size) : Since B W w :=
  ⟨hup.kept.1, hup.kept.2.1, hup.kept.size, fun k hk => hup.kept.block (by omega) (fun p ⟨j, _, e⟩ he => by subst e; simp [MemPlace.block] at he; omega)⟩

theorem Reads.since {B : Nat} {w w' : World} {a : Option Addr} {b o len cap : Nat} {ds : List Int} (h : Reads w a b o len cap ds) (hs : Since B w w') (hb : 0 < len → b < B) : Reads w' a b o len cap ds :=
  ⟨h.len_eq, h.le, h.addr, fun i hi => (hs.cell (p := ⟨b, o + i, none⟩) (hb (by omega))).trans (h.cells i hi)⟩
theorem Reads.lt {w : World} {a : Option Addr} {b o len cap : Nat} {ds : List Int} (h : Reads w a b o len cap ds) (h0 : 0 < len) : b < w.heap.size :=
  World.block_lt_of_cell? _ _ (h.cells 0 h0)

/-- What a slice that was built by appends reads as. -/
theorem reads_of_upon {W w : World} {ao : Option Addr} {b off len cap m r : Nat} {ol l : List Int} {v : Value} (hc : Came W 1 ao b off len cap (cells ol)) (hup : Upon W 5 1 ao b off len cap (cells ol) w v m (cells l) r) (hpos : 0 < cap ∨ 0 < m) :
    ∃ a' b' o' cap', v = .slice a' (len + m) cap' ∧ Reads w a' b' o' (len + m) cap' (ol ++ l) ∧ (b' = b ∨ W.heap.size ≤ b') := by
  have h1 := hc.oldsLen
  have h2 := hup.ksLen
  rw [cells_length] at h1 h2
  have key : ∀ j, j < (len + m) → ((cells ol) ++ (cells l))[j]? = some (.int .u8 ((ol ++ l).getD j 0)) := by
    intro j hj
    rw [← cells_append]
    unfold cells
    rw [List.getElem?_map, List.getD_eq_getElem?_getD, List.getElem?_eq_getElem (by rw [List.length_append]; omega)]
    rfl
  rcases hup.val with ⟨hle, rfl, hr⟩ | ⟨_, g, c', rfl, ho⟩
  · have hcap' : 0 < cap := by omega
    refine ⟨ao, b, off, cap, rfl, ⟨by rw [List.length_append]; omega, hle, fun _ => hc.addr hcap', fun j hj => ?_⟩, .inl rfl⟩
    rw [hup.inArray hc hcap' hr j (by omega), key j hj]
  · refine ⟨_, g, 0, c', rfl, ⟨by rw [List.length_append]; omega, ho.le, fun _ => rfl, fun j hj => ?_⟩, .inr ho.new⟩
    rw [Nat.zero_add, ho.holds j (by omega), key j hj]

end LawA
end Go.Proofs.Ybulkcdui
