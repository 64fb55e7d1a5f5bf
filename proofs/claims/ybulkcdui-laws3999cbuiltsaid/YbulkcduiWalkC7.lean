import Derived.Test.YbulkcduiWalkC5
import Derived.Test.YbulkcduiWalkC6
import Derived.WideKeyArgs
import Derived.Deep.QuietTactic
import Derived.BigQuiet
namespace Go.Proofs.Ybulkcdui
open Go.RowKit
open LawA (Reads Since IsRow)
namespace LawC

theorem rowis_alloc (w : World) (arr : Array Value) : RowIs (w.alloc (.cells arr 34)) w.heap.size arr := by
  unfold RowIs
  show (w.heap.push _)[w.heap.size]? = _
  simp

theorem extract_again (s : ByteArray) (i : Nat) (h : i ≤ s.size) : (s.extract 0 i).extract 0 i = s.extract 0 i := by
  apply ByteArray.ext
  have h' : i ≤ s.data.size := h
  simp [ByteArray.data_extract, Array.extract_extract]

set_option maxRecDepth 100000 in
set_option maxHeartbeats 1600000 in
theorem prefix_in (a : Option Addr) (b o len cap : Nat) (ds : List Int) (hex : Bool) (w : World) (h : Reads w a b o len cap ds) (hl : len ≤ 4096) (hds : ∀ i, i < len → 0 ≤ ds.getD i 0 ∧ ds.getD i 0 ≤ 255) :
    Calls Yba.prog 7 #[.slice a len cap, .bool hex] w fun e w' => e = .returned (.bool true) ∧ Since w.heap.size w w' := by
  obtain ⟨bs, hbs⟩ : ∃ bs : Int, (if hex then 16 else 10) = bs := ⟨_, rfl⟩
  have hb0 : 10 ≤ bs := by rw [← hbs]; split <;> omega
  have hb1 : bs ≤ 16 := by rw [← hbs]; split <;> omega
  have k14 := fun w => cbase_any hex w
  rw [hbs] at k14
  clear hbs
  have k13 := cbuild_any a b o len cap ds w h hl hds
  go_enter Yba.func7, Yba.ntmps7
  go_upto_region 6 with (first | (go_at_call 13; refine k13.mono ?_; rintro e w1 ⟨s, rfl, hsz, hgood, hs1⟩) | (go_at_call 14; refine (k14 _).mono ?_; rintro e w' ⟨rfl, hw'⟩; subst hw'))
  clear k13 k14
  have hz0 := hs1.size
  have hs4 : s.size ≤ 4096 := by omega
  have HSZ : Hid (s.size = len) := hsz
  clear hsz
  go_upto_region 7 with (go_at_call 15; refine (read_any s bs _ _ _ _ _ _ _ _ (rowis_alloc _ _) hs4 hb0 hb1).mono ?_; rintro e w2 ⟨i, st, rfl, hE, hR, hO⟩)
  have hil := hE.le
  have HE : Hid (Ends s bs (limOf bs) i st) := hE
  have HR : Hid (RowIs w2 w'.heap.size #[.int .i64 st.dp, .string (s.extract 0 i), .int .i64 (firstOf i st), .int .u64 st.x, .int .i64 (nxOf (limOf bs) st), .bool st.trunc]) := hR
  have t1 : w2.cell? ⟨w'.heap.size, 1, none⟩ = some (.string (s.extract 0 i)) := hR.cell 1 _ rfl
  clear hE hR
  have n1 : decide ((i : Int) < 0) = false := by simp
  have n2 : decide (s.size < i) = false := by simp; omega
  have n3 : (i : Int) ≤ (s.size : Int) := by omega
  go_quiet (fail)
  have HR3 : Hid (RowIs (w2.drewN nq) w'.heap.size #[.int .i64 st.dp, .string (s.extract 0 i), .int .i64 (firstOf i st), .int .u64 st.x, .int .i64 (nxOf (limOf bs) st), .bool st.trunc]) := HR.out.drewN nq
  have hO3 := hO.drewN nq
  clear HR hO t1 n1 n2
  generalize w2.drewN nq = w3 at HR3 hO3 ⊢
  have hz3 : w'.heap.size < w3.heap.size := by have := hO3.size; rw [this]; simp
  have t1 : w3.cell? ⟨w'.heap.size, 1, none⟩ = some (.string (s.extract 0 i)) := HR3.out.cell 1 _ rfl
  go_upto_region 10 with fail
  have hs5 : (s.extract 0 i).size ≤ 4096 := by rw [size_prefix s i hil]; omega
  go_upto_region 11 with (go_at_call 15; refine (read_any (s.extract 0 i) bs _ _ _ _ _ _ _ _ (rowis_alloc _ _) hs5 hb0 hb1).mono ?_; rintro e w4 ⟨i2, st2, rfl, hE2, hR2, hO2⟩)
  obtain ⟨rfl, rfl⟩ := HE.out.again.same hE2
  clear hE2 t1
  rw [extract_again s i hil] at hR2
  have hR4 : RowIs w4 w'.heap.size #[.int .i64 st.dp, .string (s.extract 0 i), .int .i64 (firstOf i st), .int .u64 st.x, .int .i64 (nxOf (limOf bs) st), .bool st.trunc] := by
    unfold RowIs
    rw [hO2.block _ (by omega), Below.heap_alloc _ _ _ hz3]
    exact HR3.out
  have hs06 : Since w.heap.size w w4 := by
    refine hs1.trans (Since.trans (b := w3) ?_ ?_)
    · exact ⟨hO3.os, hO3.output, by omega, fun k hk => by rw [hO3.block k (by omega), Below.heap_alloc _ _ _ (by omega)]⟩
    · exact ⟨hO2.os, hO2.output, by rw [hO2.size]; simp, fun k hk => by rw [hO2.block k (by omega), Below.heap_alloc _ _ _ (by omega)]⟩
  clear hO2 hO3 HR3 HE
  generalize st.dp = D at hR2 hR4
  generalize firstOf i st = F at hR2 hR4
  generalize st.x = X at hR2 hR4
  generalize nxOf (limOf bs) st = N at hR2 hR4
  generalize st.trunc = B at hR2 hR4
  generalize s.extract 0 i = T at hR2 hR4 ⊢
  have a0 := hR2.cell 0 _ rfl
  have a1 := hR2.cell 1 _ rfl
  have a2 := hR2.cell 2 _ rfl
  have a3 := hR2.cell 3 _ rfl
  have a4 := hR2.cell 4 _ rfl
  have a5 := hR2.cell 5 _ rfl
  have b0 := hR4.cell 0 _ rfl
  have b1 := hR4.cell 1 _ rfl
  have b2 := hR4.cell 2 _ rfl
  have b3 := hR4.cell 3 _ rfl
  have b4 := hR4.cell 4 _ rfl
  have b5 := hR4.cell 5 _ rfl
  clear hR2 hR4
  go_wp2_with fail
  go_ret
  exact ⟨rfl, hs06⟩

set_option maxHeartbeats 400000 in
theorem prefix_out (a : Option Addr) (len cap : Nat) (hex : Bool) (w : World) (h : (4096 : Int) < (len : Int)) :
    Calls Yba.prog 7 #[.slice a len cap, .bool hex] w fun e w' => e = .returned (.bool true) ∧ w' = w := by
  go_enter Yba.func7, Yba.ntmps7
  go_wp2
  go_ret
  exact ⟨rfl, rfl⟩

/-- A row of bytes: each number a byte's. -/
theorem isRow_bytes {w : World} {a : Option Addr} {len cap : Nat} {zs : List Int} (h : IsRow .u8 w a len cap zs) : ∀ i, i < len → 0 ≤ (zs.take len).getD i 0 ∧ (zs.take len).getD i 0 ≤ 255 := by
  intro i hi
  rcases h with ⟨_, rfl, _, _⟩ | ⟨x, _, hl, _, hz, _, hw⟩
  · omega
  · rw [List.getD_eq_getElem?_getD, List.getElem?_take_of_lt hi, List.getElem?_eq_getElem (by omega)]
    exact bounds_u8 (hw _ (List.getElem_mem _))

theorem prefix_walk (a0 : Option Addr) (len0 cap0 : Nat) (z0 : List Int) (a1 : Bool) (w : World) (w0 : IsRow .u8 w a0 len0 cap0 z0) :
    Calls Yba.prog 7 #[.slice a0 len0 cap0, .bool a1] w fun e w' => e = .returned (.bool true) ∧ Since w.heap.size w w' := by
  by_cases h : 4096 < len0
  · refine (prefix_out a0 len0 cap0 a1 w (by omega)).mono fun e w' ⟨he, hw⟩ => ⟨he, ?_⟩
    rw [hw]
    exact Since.refl _ _
  · obtain ⟨b0, o0, r0⟩ := LawA.isRow_reads w0
    exact prefix_in a0 b0 o0 len0 cap0 _ a1 w r0 (by omega) (isRow_bytes w0)

theorem trod_since {H : Type} {enc : TypeId × Value → H} {P : Program} {t : TypeId} (hl : laidOutB P = true) (hr : P.readableRec t = true) (hrow : t < P.types.size) {W W' : World} {v : Value} {d : DataW H} {ps : List MemPlace}
    (h : DataW.Trod enc P W 0 (fun _ => true) true t v d ps) (hb : Since W.heap.size W W') (hlt : ∀ x ∈ ps, x.block < W.heap.size) :
    DataW.Trod enc P W' 0 (fun b => decide (b < W.heap.size)) true t v d ps :=
  WideElems.Trod_stays hl hr hrow h (fun x hx => hb.same (hlt x hx)) (fun x hx => by simpa using hlt x hx)

end LawC
end Go.Proofs.Ybulkcdui
