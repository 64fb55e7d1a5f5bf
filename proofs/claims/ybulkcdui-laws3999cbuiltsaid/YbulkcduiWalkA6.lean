import Derived.Test.YbulkcduiWalkA5
import Derived.Laws.CopyOwn
import Derived.Laws.BytesArg
import Derived.OpenShut
import Derived.Deep.RegionWith
namespace Go.Proofs.Ybulkcdui
open Go.RowKit
namespace LawA

/-- 'string(b)' of a slice of bytes. -/
theorem conv_any {w : World} {a : Option Addr} {b o len cap : Nat} {ds : List Int} (h : Reads w a b o len cap ds) : (convert 22 9 (.slice a len cap)).run Yba.prog w = .ok (.string (strOfNums ds)) w := by
  cases a with
  | none =>
    obtain rfl : len = 0 := by
      rcases Nat.eq_zero_or_pos len with h0 | h0
      · exact h0
      · exact absurd (h.addr h0) (by simp)
    obtain rfl : ds = [] := List.eq_nil_of_length_eq_zero h.len_eq
    exact run_convert_bytes_nil w 22 5 Yba.underlying22 Yba.underlying5 0 cap 9 Yba.underlying9
  | some x =>
    rcases Nat.eq_zero_or_pos len with h0 | h0
    · subst h0
      obtain rfl : ds = [] := List.eq_nil_of_length_eq_zero h.len_eq
      rw [run_convert_bytes_string w 22 9 5 _ 0 cap Yba.underlying22 Yba.underlying5 Yba.underlying9, run_bytesToString w _ 0 cap [] (run_loadCells_list (P := Yba.prog) w x [] (by intro j v hj; simp at hj))]
      rfl
    · obtain rfl : x = ⟨b, o, none⟩ := by simpa using h.addr h0
      exact run_convert_bytes_arg w 22 5 Yba.underlying22 Yba.underlying5 b o len cap ds h.len_eq h.cells 9 Yba.underlying9

/-- bytes.Equal of two slices that hold the same. -/
theorem equal_same {w : World} {a1 a2 : Option Addr} {b1 o1 n1 c1 b2 o2 n2 c2 : Nat} {l1 l2 : List Int} (h1 : Reads w a1 b1 o1 n1 c1 l1) (h2 : Reads w a2 b2 o2 n2 c2 l2) (he : l1 = l2) :
    Calls Yba.prog 10 #[.slice a1 n1 c1, .slice a2 n2 c2] w fun e w' => e = .returned (.bool true) ∧ w' = w := by
  subst he
  have k1 := conv_any h1
  have k2 := conv_any h2
  clear h1 h2
  go_enter Yba.func10, Yba.ntmps10
  go_wp2
  go_ret
  exact ⟨by simp, rfl⟩

/-- WHAT THE WALK IS TOLD OF A SLICE OF INTEGERS THAT CAME IN: it is nil; or it leads to a row of 'cap' cells, the numbers 'zs'. -/
def IsRow (k : IntKind) (w : World) (a : Option Addr) (len cap : Nat) (zs : List Int) : Prop :=
  (a = none ∧ len = 0 ∧ cap = 0 ∧ zs = []) ∨
  ∃ x, a = some x ∧ len ≤ cap ∧ cap ≤ maxLen ∧ zs.length = cap ∧ (∀ i, i < zs.length → w.cell? (x.add i) = some (.int k (zs.getD i 0))) ∧ ∀ n ∈ zs, (Lit.int k n).wf = true

theorem isRow_reads {w : World} {a : Option Addr} {len cap : Nat} {zs : List Int} (h : IsRow .u8 w a len cap zs) : ∃ b o, Reads w a b o len cap (zs.take len) := by
  rcases h with ⟨rfl, rfl, rfl, rfl⟩ | ⟨x, rfl, hl, _, hz, hc, _⟩
  · exact ⟨0, 0, ⟨rfl, Nat.le_refl _, fun h => by omega, fun i hi => by omega⟩⟩
  · rcases Nat.eq_zero_or_pos len with h0 | h0
    · subst h0
      exact ⟨0, 0, ⟨by simp, by omega, fun h => by omega, fun i hi => by omega⟩⟩
    · obtain ⟨b, o, rfl, hcc⟩ := ints_at hc (by omega)
      refine ⟨b, o, ⟨by rw [List.length_take]; omega, hl, fun _ => rfl, fun i hi => ?_⟩⟩
      rw [hcc i (by omega), List.getD_eq_getElem?_getD, List.getD_eq_getElem?_getD, List.getElem?_take_of_lt hi]

theorem wf_i64 {n : Int} (h : (Lit.int .i64 n).wf = true) : -9223372036854775808 ≤ n ∧ n ≤ 9223372036854775807 := by
  have := bounds_i64 h
  omega

theorem appPart_pos (ds : List Int) (dp prec : Int) : 0 < (appPart ds dp prec).length := by
  rw [app_eq_mod]
  unfold modPart intModel
  rw [List.length_append]
  split
  · simp; omega
  · rw [places_length]; omega

end LawA
end Go.Proofs.Ybulkcdui
