/-
  No cell of these rows narrows 'for every input' (looked for: loops, veiled, ifaces, maps, wideKeys, modest, calm, conditions, laid).
  DERIVED. THE GIVEN ROWS OF THIS SEAT. 5 by the template 'for every input the law returns true; each argument reads behind the call as it read before'; 0 by the template 'total and deterministic' (their statements: YbulkcduiTotals.lean).
  GIVEN WITH THE SEED: the statements are not yours to turn. If you find one false, say at which input.
  Laid BY PROGRAM, IN A SANDBOX (cutbox-rows.mjs): the forced cells as the released guide's own fill.sh prints them over the translation 783743d59d13c319… (all of the seat's roots in one cut). By AI agents, Wed Nov 11 2026. No macro, syntax, notation, axiom, sorry.
-/
import Derived.Test.YbulkcduiChecked
import GoSem.Claim
import GoSem.ClaimJoined
import GoSem.ClaimMapViews
import Derived.JoinedTies
import Derived.KernelRfl
namespace Go.Proofs.Ybulkcdui
/- THE CELL 'sum', in the pinned program and in every row, IS THE sha256 OF THE DUMP (.gsa) THAT YbulkcduiProg.lean LOADS. Nothing in Lean hashes anything: it is a label: what it is worth is what the hold of that sum in a sandbox is worth. -/
noncomputable def Yba.pinned : Pinned := { name := "ybulkcdui", sum := "783743d59d13c319c036c79b02d909f0e3fa22cbf3e360e2780ef08e331aa27f", checked := Yba.checked }
namespace Rows
def none {H : Type} : Left H := { results := [], args := [] }

/-- 'halfbit.LawS3999AModel': WHATEVER THE INPUT: true; the input reads as it did. -/
def lawS3999AModelSpec : ChangeSpec := { name := "lawS3999AModel", fn := fun _ => fun
  | [d1, d2, d3, d4] => { results := [.lit (.bool true)], args := [d1, d2, d3, d4] }
  | _ => none }
def lawS3999AModelRow : OpenClaim := { program := "ybulkcdui", sum := "783743d59d13c319c036c79b02d909f0e3fa22cbf3e360e2780ef08e331aa27f", func := "example.com/halfbit/halfbit.LawS3999AModel", spec := "lawS3999AModel", apart := false }
def LawS3999AModelSaid : Prop := lawS3999AModelRow.holds Yba.pinned (OpenSpec.ofChange lawS3999AModelSpec)

/-- ITS FALSE NEIGHBOUR: 'it returns false'. Refute it at one input. -/
def lawS3999AModelWrong : ChangeSpec := { name := "lawS3999AModel", fn := fun _ => fun
  | [d1, d2, d3, d4] => { results := [.lit (.bool false)], args := [d1, d2, d3, d4] }
  | _ => none }
def LawS3999AModelWrongFalsely : Prop := lawS3999AModelRow.holds Yba.pinned (OpenSpec.ofChange lawS3999AModelWrong)

/-- 'halfbit.LawS3999AAlias': WHATEVER THE INPUT: true; the input reads as it did. -/
def lawS3999AAliasSpec : ChangeSpec := { name := "lawS3999AAlias", fn := fun _ => fun
  | [d1, d2, d3, d4] => { results := [.lit (.bool true)], args := [d1, d2, d3, d4] }
  | _ => none }
def lawS3999AAliasRow : OpenClaim := { program := "ybulkcdui", sum := "783743d59d13c319c036c79b02d909f0e3fa22cbf3e360e2780ef08e331aa27f", func := "example.com/halfbit/halfbit.LawS3999AAlias", spec := "lawS3999AAlias", apart := false }
def LawS3999AAliasSaid : Prop := lawS3999AAliasRow.holds Yba.pinned (OpenSpec.ofChange lawS3999AAliasSpec)

/-- ITS FALSE NEIGHBOUR: 'it returns false'. Refute it at one input. -/
def lawS3999AAliasWrong : ChangeSpec := { name := "lawS3999AAlias", fn := fun _ => fun
  | [d1, d2, d3, d4] => { results := [.lit (.bool false)], args := [d1, d2, d3, d4] }
  | _ => none }
def LawS3999AAliasWrongFalsely : Prop := lawS3999AAliasRow.holds Yba.pinned (OpenSpec.ofChange lawS3999AAliasWrong)

/-- 'halfbit.LawS3999BDigits': WHATEVER THE INPUT: true; the input reads as it did. -/
def lawS3999BDigitsSpec : ChangeSpec := { name := "lawS3999BDigits", fn := fun _ => fun
  | [d1, d2, d3] => { results := [.lit (.bool true)], args := [d1, d2, d3] }
  | _ => none }
def lawS3999BDigitsRow : OpenClaim := { program := "ybulkcdui", sum := "783743d59d13c319c036c79b02d909f0e3fa22cbf3e360e2780ef08e331aa27f", func := "example.com/halfbit/halfbit.LawS3999BDigits", spec := "lawS3999BDigits", named := ["encoding/binary.LittleEndian"], apart := false }
def LawS3999BDigitsSaid : Prop := lawS3999BDigitsRow.holds Yba.pinned (OpenSpec.ofChange lawS3999BDigitsSpec)

/-- ITS FALSE NEIGHBOUR: 'it returns false'. Refute it at one input. -/
def lawS3999BDigitsWrong : ChangeSpec := { name := "lawS3999BDigits", fn := fun _ => fun
  | [d1, d2, d3] => { results := [.lit (.bool false)], args := [d1, d2, d3] }
  | _ => none }
def LawS3999BDigitsWrongFalsely : Prop := lawS3999BDigitsRow.holds Yba.pinned (OpenSpec.ofChange lawS3999BDigitsWrong)

/-- 'halfbit.LawS3999CBuilt': WHATEVER THE INPUT: true; the input reads as it did. -/
def lawS3999CBuiltSpec : ChangeSpec := { name := "lawS3999CBuilt", fn := fun _ => fun
  | [d1, d2] => { results := [.lit (.bool true)], args := [d1, d2] }
  | _ => none }
def lawS3999CBuiltRow : OpenClaim := { program := "ybulkcdui", sum := "783743d59d13c319c036c79b02d909f0e3fa22cbf3e360e2780ef08e331aa27f", func := "example.com/halfbit/halfbit.LawS3999CBuilt", spec := "lawS3999CBuilt", apart := false }
def LawS3999CBuiltSaid : Prop := lawS3999CBuiltRow.holds Yba.pinned (OpenSpec.ofChange lawS3999CBuiltSpec)

/-- ITS FALSE NEIGHBOUR: 'it returns false'. Refute it at one input. -/
def lawS3999CBuiltWrong : ChangeSpec := { name := "lawS3999CBuilt", fn := fun _ => fun
  | [d1, d2] => { results := [.lit (.bool false)], args := [d1, d2] }
  | _ => none }
def LawS3999CBuiltWrongFalsely : Prop := lawS3999CBuiltRow.holds Yba.pinned (OpenSpec.ofChange lawS3999CBuiltWrong)

/-- 'halfbit.LawS3999CPrefix': WHATEVER THE INPUT: true; the input reads as it did. -/
def lawS3999CPrefixSpec : ChangeSpec := { name := "lawS3999CPrefix", fn := fun _ => fun
  | [d1, d2] => { results := [.lit (.bool true)], args := [d1, d2] }
  | _ => none }
def lawS3999CPrefixRow : OpenClaim := { program := "ybulkcdui", sum := "783743d59d13c319c036c79b02d909f0e3fa22cbf3e360e2780ef08e331aa27f", func := "example.com/halfbit/halfbit.LawS3999CPrefix", spec := "lawS3999CPrefix", apart := false }
def LawS3999CPrefixSaid : Prop := lawS3999CPrefixRow.holds Yba.pinned (OpenSpec.ofChange lawS3999CPrefixSpec)

/-- ITS FALSE NEIGHBOUR: 'it returns false'. Refute it at one input. -/
def lawS3999CPrefixWrong : ChangeSpec := { name := "lawS3999CPrefix", fn := fun _ => fun
  | [d1, d2] => { results := [.lit (.bool false)], args := [d1, d2] }
  | _ => none }
def LawS3999CPrefixWrongFalsely : Prop := lawS3999CPrefixRow.holds Yba.pinned (OpenSpec.ofChange lawS3999CPrefixWrong)

end Rows
end Go.Proofs.Ybulkcdui
