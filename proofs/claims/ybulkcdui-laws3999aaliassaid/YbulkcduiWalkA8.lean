import Derived.Test.YbulkcduiWalkA7
import Derived.WideKeyArgs
namespace Go.Proofs.Ybulkcdui
open Go.RowKit
namespace LawA

theorem Since.trod {H : Type} {enc : TypeId × Value → H} {P : Program} {t : TypeId} (hl : laidOutB P = true) (hr : P.readableRec t = true) (hrow : t < P.types.size) {W W' : World} {v : Value} {d : DataW H} {ps : List MemPlace}
    (h : DataW.Trod enc P W 0 (fun _ => true) true t v d ps) (hb : Since W.heap.size W W') (hlt : ∀ x ∈ ps, x.block < W.heap.size) :
    DataW.Trod enc P W' 0 (fun b => decide (b < W.heap.size)) true t v d ps :=
  WideElems.Trod_stays hl hr hrow h (fun x hx => hb.same (hlt x hx)) (fun x hx => by simpa using hlt x hx)

set_option maxHeartbeats 400000 in
theorem model_out (a0 : Option Addr) (len0 cap0 : Nat) (a1 : Option Addr) (len1 cap1 : Nat) (dp prec : Int) (w : World) (h : 1024 < len0 ∨ 1024 < len1 ∨ dp < -400 ∨ 400 < dp ∨ 400 < prec) :
    Calls Yba.prog 3 #[.slice a0 len0 cap0, .slice a1 len1 cap1, .int .i64 dp, .int .i64 prec] w fun e w' => e = .returned (.bool true) ∧ w' = w := by
  by_cases g1 : (1024 : Int) < (len0 : Int)
  · clear h
    go_enter Yba.func3, Yba.ntmps3
    go_wp2
    go_ret
    exact ⟨rfl, rfl⟩
  · by_cases g2 : (1024 : Int) < (len1 : Int)
    · clear h
      go_enter Yba.func3, Yba.ntmps3
      go_wp2
      go_ret
      exact ⟨rfl, rfl⟩
    · by_cases g3 : dp < -400
      · clear h
        go_enter Yba.func3, Yba.ntmps3
        go_wp2
        go_ret
        exact ⟨rfl, rfl⟩
      · by_cases g4 : 400 < dp
        · clear h
          go_enter Yba.func3, Yba.ntmps3
          go_wp2
          go_ret
          exact ⟨rfl, rfl⟩
        · have g5 : 400 < prec := by omega
          clear h
          go_enter Yba.func3, Yba.ntmps3
          go_wp2
          go_ret
          exact ⟨rfl, rfl⟩

theorem model_walk (a0 : Option Addr) (len0 cap0 : Nat) (z0 : List Int) (a1 : Option Addr) (len1 cap1 : Nat) (z1 : List Int) (a2 : Int) (a3 : Int) (w : World) (w0 : IsRow .u8 w a0 len0 cap0 z0) (w1 : IsRow .u8 w a1 len1 cap1 z1) (w3 : (Lit.int .i64 a3).wf = true) :
    Calls Yba.prog 3 #[.slice a0 len0 cap0, .slice a1 len1 cap1, .int .i64 a2, .int .i64 a3] w fun e w' => e = .returned (.bool true) ∧ Since w.heap.size w w' := by
  by_cases h : 1024 < len0 ∨ 1024 < len1 ∨ a2 < -400 ∨ 400 < a2 ∨ 400 < a3
  · refine (model_out a0 len0 cap0 a1 len1 cap1 a2 a3 w h).mono fun e w' ⟨he, hw⟩ => ⟨he, ?_⟩
    rw [hw]
    exact Since.refl _ _
  · obtain ⟨b0, o0, r0⟩ := isRow_reads w0
    obtain ⟨b1, o1, r1⟩ := isRow_reads w1
    exact model_in a0 b0 o0 len0 cap0 _ a1 b1 o1 len1 cap1 _ a2 a3 w r0 r1 (by omega) (by omega) (by omega) (by omega) (by omega) (wf_i64 w3).1

end LawA
end Go.Proofs.Ybulkcdui
