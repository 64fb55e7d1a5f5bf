import Derived.Test.YbulkcduiWalkC10
namespace Go.Proofs.Ybulkcdui
open Go.RowKit
open LawA (Since)
namespace LawC

set_option maxRecDepth 100000 in
set_option maxHeartbeats 1600000 in
theorem ccheck_any (s : ByteArray) (bs : Int) (w : World) (hs : s.size ≤ 4096) (hb : bs = 10 ∨ bs = 16) (hgood : ∀ j, j < s.size → goodB (byteI s j)) :
    Calls Yba.prog 12 #[.string s, .int .i64 bs] w fun e w' => e = .returned (.bool true) ∧ Since w.heap.size w w' := by
  have hb0 : 10 ≤ bs := by omega
  have hb1 : bs ≤ 16 := by omega
  have k22 := fun w => cmodel_any s bs w hs hb hgood
  clear hb hgood
  go_enter Yba.func12, Yba.ntmps12
  go_upto_region 3 with (go_at_call 15; refine (read_any s bs _ _ _ _ _ _ _ _ (rowis_alloc _ _) hs hb0 hb1).mono ?_; rintro e w2 ⟨i, st, rfl, hE, hR, hO⟩)
  have hz2 : w2.heap.size = w.heap.size + 1 := by rw [hO.size]; simp
  have hs2 : Since w.heap.size w w2 := ⟨hO.os, hO.output, by omega, fun k hk => by rw [hO.block k (by omega), Below.heap_alloc _ _ _ (by omega)]⟩
  have HR : Hid (RowIs w2 w.heap.size #[.int .i64 st.dp, .string (s.extract 0 i), .int .i64 (firstOf i st), .int .u64 st.x, .int .i64 (nxOf (limOf bs) st), .bool st.trunc]) := hR
  have HE : Hid (Ends s bs (limOf bs) i st) := hE
  clear hO hR hE
  go_upto_region 4 with (go_at_call 22; refine (k22 _).mono ?_; rintro e w3 ⟨i2, st2, rfl, hE2, hs3⟩)
  obtain ⟨rfl, rfl⟩ := HE.out.same hE2
  have hz3 : w.heap.size < w3.heap.size := by have := hs3.size; omega
  have hR3 : RowIs w3 w.heap.size #[.int .i64 st.dp, .string (s.extract 0 i), .int .i64 (firstOf i st), .int .u64 st.x, .int .i64 (nxOf (limOf bs) st), .bool st.trunc] := by
    unfold RowIs
    rw [hs3.block _ (by omega)]
    exact HR.out
  have hsA : ∀ o, Since w.heap.size w (w3.alloc o) := fun o => (hs2.trans (hs3.mono (by omega))).trans (Since.of_below ((Below.refl _ _).alloc (by omega) o))
  clear hE2 HE HR hs2 hs3 k22
  generalize st.dp = D at hR3 ⊢
  generalize firstOf i st = F at hR3 ⊢
  generalize st.x = X at hR3 ⊢
  generalize nxOf (limOf bs) st = N at hR3 ⊢
  generalize st.trunc = B at hR3 ⊢
  generalize s.extract 0 i = T at hR3 ⊢
  have hcell : ∀ o j v, #[Value.int .i64 D, .string T, .int .i64 F, .int .u64 X, .int .i64 N, .bool B][j]? = some v → (w3.alloc o).cell? ⟨w.heap.size, j, none⟩ = some v := fun o j v hv => (World.cell?_alloc_lt w3 o ⟨w.heap.size, j, none⟩ hz3).trans (hR3.cell j v hv)
  have b0 := fun o => hcell o 0 _ rfl
  have b1 := fun o => hcell o 1 _ rfl
  have b2 := fun o => hcell o 2 _ rfl
  have b3 := fun o => hcell o 3 _ rfl
  have b4 := fun o => hcell o 4 _ rfl
  have b5 := fun o => hcell o 5 _ rfl
  clear hcell hR3
  go_wp2_with fail
  go_ret
  exact ⟨rfl, hsA _⟩

set_option maxHeartbeats 800000 in
theorem built_in (a : Option Addr) (b o len cap : Nat) (ds : List Int) (hex : Bool) (w : World) (h : LawA.Reads w a b o len cap ds) (hl : len ≤ 4096) (hds : ∀ i, i < len → 0 ≤ ds.getD i 0 ∧ ds.getD i 0 ≤ 255) :
    Calls Yba.prog 6 #[.slice a len cap, .bool hex] w fun e w' => e = .returned (.bool true) ∧ Since w.heap.size w w' := by
  have k14 := fun w => cbase_any hex w
  have hbs : (if hex then (16 : Int) else 10) = 10 ∨ (if hex then (16 : Int) else 10) = 16 := by cases hex <;> simp
  generalize (if hex then (16 : Int) else 10) = bs at k14 hbs
  have HB : Hid (bs = 10 ∨ bs = 16) := hbs
  clear hbs
  have k13 := cbuild_any a b o len cap ds w h hl hds
  go_enter Yba.func6, Yba.ntmps6
  go_wp2_with (first | (go_at_call 13; refine k13.mono ?_; rintro e w1 ⟨s, rfl, hsz, hgood, hs1⟩; have HSZ : Hid (s.size = len) := hsz; clear hsz) | (go_at_call 14; refine (k14 _).mono ?_; rintro e w' ⟨rfl, hw'⟩; subst hw') | (go_at_call 12; refine (ccheck_any s bs _ (by rw [HSZ.out]; exact hl) HB.out (by rw [HSZ.out]; exact hgood)).mono ?_; rintro e w2 ⟨rfl, hs2⟩))
  go_ret
  exact ⟨rfl, hs1.trans (hs2.mono hs1.size)⟩

set_option maxHeartbeats 400000 in
theorem built_out (a : Option Addr) (len cap : Nat) (hex : Bool) (w : World) (h : (4096 : Int) < (len : Int)) :
    Calls Yba.prog 6 #[.slice a len cap, .bool hex] w fun e w' => e = .returned (.bool true) ∧ w' = w := by
  go_enter Yba.func6, Yba.ntmps6
  go_wp2
  go_ret
  exact ⟨rfl, rfl⟩

theorem built_walk (a0 : Option Addr) (len0 cap0 : Nat) (z0 : List Int) (a1 : Bool) (w : World) (w0 : LawA.IsRow .u8 w a0 len0 cap0 z0) :
    Calls Yba.prog 6 #[.slice a0 len0 cap0, .bool a1] w fun e w' => e = .returned (.bool true) ∧ Since w.heap.size w w' := by
  by_cases h : 4096 < len0
  · refine (built_out a0 len0 cap0 a1 w (by omega)).mono fun e w' ⟨he, hw⟩ => ⟨he, ?_⟩
    rw [hw]
    exact Since.refl _ _
  · obtain ⟨b0, o0, r0⟩ := LawA.isRow_reads w0
    exact built_in a0 b0 o0 len0 cap0 _ a1 w r0 (by omega) (isRow_bytes w0)

end LawC
end Go.Proofs.Ybulkcdui
