import Derived.Test.YbulkcduiProg
import Derived.Test.YbulkcduiPlainA
import Derived.WalkKit
import Derived.Deep.LoopGhost
import Derived.Deep.Upon
import Derived.KernelRfl
namespace Go.Proofs.Ybulkcdui
open Go.RowKit

theorem Yba.info5 : (Yba.prog.info? 5).map (fun i => (i.zero, i.size, i.bytes)) = some (some (.int .u8 0), 1, 1) := by kernel_rfl

namespace LawA

/-- What is known of a slice of bytes that is only read. -/
structure Reads (w : World) (a : Option Addr) (b o len cap : Nat) (ds : List Int) : Prop where
  len_eq : ds.length = len
  le : len ≤ cap
  addr : 0 < len → a = some ⟨b, o, none⟩
  cells : ∀ i, i < len → w.cell? ⟨b, o + i, none⟩ = some (.int .u8 (ds.getD i 0))

set_option maxHeartbeats 400000 in
theorem at_in (a : Option Addr) (b o len cap : Nat) (ds : List Int) (i : Nat) (w : World) (h : Reads w a b o len cap ds) (hi : i < len) (hl : len ≤ 100000) :
    Calls Yba.prog 17 #[.slice a len cap, .int .i64 (i : Int)] w fun e w' => e = .returned (.int .u8 (digAt ds (i : Int))) ∧ w' = w := by
  have hc := h.cells i hi
  have ha := h.addr (by omega)
  have hlen := h.len_eq
  rw [digAt_in ds i (by omega)]
  subst ha
  clear h
  have hi' : (i : Int) < (len : Int) := by omega
  clear hlen
  go_enter Yba.func17, Yba.ntmps17
  go_wp2
  go_ret
  exact ⟨rfl, rfl⟩

set_option maxHeartbeats 400000 in
theorem at_out (a : Option Addr) (len cap : Nat) (p : Int) (w : World) (hp : p < 0 ∨ (len : Int) ≤ p) (hl : len ≤ 100000) :
    Calls Yba.prog 17 #[.slice a len cap, .int .i64 p] w fun e w' => e = .returned (.int .u8 48) ∧ w' = w := by
  rcases hp with hp | hp
  · go_enter Yba.func17, Yba.ntmps17
    go_wp2
    go_ret
    exact ⟨rfl, rfl⟩
  · by_cases h0 : p < 0
    · omega
    · go_enter Yba.func17, Yba.ntmps17
      go_wp2
      go_ret
      exact ⟨rfl, rfl⟩

end LawA
end Go.Proofs.Ybulkcdui
