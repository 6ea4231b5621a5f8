/-
  No cell of these rows narrows 'for every input' (looked for: loops, veiled, ifaces, maps, wideKeys, modest, calm, conditions, laid).
  DERIVED. THE GIVEN ROWS OF THIS SEAT. 3 by the template 'for every input the law returns true; each argument reads behind the call as it read before'; 0 by the template 'total and deterministic' (their statements: Qxb6604224aTotals.lean).
  GIVEN WITH THE SEED: the statements are not yours to turn. If you find one false, say at which input.
  Laid BY PROGRAM, IN A SANDBOX (cutbox-rows.mjs): the forced cells as the released guide's own fill.sh prints them over the translation 9da96a8d650de84a… (all of the seat's roots in one cut). By AI agents, Wed Nov 11 2026. No macro, syntax, notation, axiom, sorry.
-/
import Derived.Test.Qxb6604224aChecked
import GoSem.Claim
import GoSem.ClaimJoined
import GoSem.ClaimMapViews
import Derived.JoinedTies
import Derived.KernelRfl
namespace Go.Proofs.Qxb6604224a
/- THE CELL 'sum', in the pinned program and in every row, IS THE sha256 OF THE DUMP (.gsa) THAT Qxb6604224aProg.lean LOADS. Nothing in Lean hashes anything: it is a label: what it is worth is what the hold of that sum in a sandbox is worth. -/
noncomputable def Try.pinned : Pinned := { name := "qxb6604224a", sum := "9da96a8d650de84a68b2b86121368aed7422ab4be4a9f06abc36bfcceb4db81a", checked := Try.checked }
namespace Rows
def none {H : Type} : Left H := { results := [], args := [] }

/-- 'zzlaws_root_b1.FnJoinAndExact': WHATEVER THE INPUT: true; the input reads as it did. -/
def fnJoinAndExactSpec : ChangeSpec := { name := "fnJoinAndExact", fn := fun _ => fun
  | [d] => { results := [.lit (.bool true)], args := [d] }
  | _ => none }
def fnJoinAndExactRow : OpenClaim := { program := "qxb6604224a", sum := "9da96a8d650de84a68b2b86121368aed7422ab4be4a9f06abc36bfcceb4db81a", func := "example.com/prudentia/prudentia/zzlaws_root_b1.FnJoinAndExact", spec := "fnJoinAndExact", inPlace := ["internal/abi.NoEscape", "internal/bytealg.MakeNoZero"], apart := false }
def FnJoinAndExactSaid : Prop := fnJoinAndExactRow.holds Try.pinned (OpenSpec.ofChange fnJoinAndExactSpec)

/-- ITS FALSE NEIGHBOUR: 'it returns false'. Refute it at one input. -/
def fnJoinAndExactWrong : ChangeSpec := { name := "fnJoinAndExact", fn := fun _ => fun
  | [d] => { results := [.lit (.bool false)], args := [d] }
  | _ => none }
def FnJoinAndExactWrongFalsely : Prop := fnJoinAndExactRow.holds Try.pinned (OpenSpec.ofChange fnJoinAndExactWrong)

/-- 'zzlaws_root_b1.FnJoinAndUnfold': WHATEVER THE INPUT: true; the input reads as it did. -/
def fnJoinAndUnfoldSpec : ChangeSpec := { name := "fnJoinAndUnfold", fn := fun _ => fun
  | [d] => { results := [.lit (.bool true)], args := [d] }
  | _ => none }
def fnJoinAndUnfoldRow : OpenClaim := { program := "qxb6604224a", sum := "9da96a8d650de84a68b2b86121368aed7422ab4be4a9f06abc36bfcceb4db81a", func := "example.com/prudentia/prudentia/zzlaws_root_b1.FnJoinAndUnfold", spec := "fnJoinAndUnfold", inPlace := ["internal/abi.NoEscape", "internal/bytealg.MakeNoZero"], apart := false }
def FnJoinAndUnfoldSaid : Prop := fnJoinAndUnfoldRow.holds Try.pinned (OpenSpec.ofChange fnJoinAndUnfoldSpec)

/-- ITS FALSE NEIGHBOUR: 'it returns false'. Refute it at one input. -/
def fnJoinAndUnfoldWrong : ChangeSpec := { name := "fnJoinAndUnfold", fn := fun _ => fun
  | [d] => { results := [.lit (.bool false)], args := [d] }
  | _ => none }
def FnJoinAndUnfoldWrongFalsely : Prop := fnJoinAndUnfoldRow.holds Try.pinned (OpenSpec.ofChange fnJoinAndUnfoldWrong)

/-- 'zzlaws_root_b1.FnSkipExact': WHATEVER THE INPUT: true; the input reads as it did. -/
def fnSkipExactSpec : ChangeSpec := { name := "fnSkipExact", fn := fun _ => fun
  | [d1, d2, d3] => { results := [.lit (.bool true)], args := [d1, d2, d3] }
  | _ => none }
def fnSkipExactRow : OpenClaim := { program := "qxb6604224a", sum := "9da96a8d650de84a68b2b86121368aed7422ab4be4a9f06abc36bfcceb4db81a", func := "example.com/prudentia/prudentia/zzlaws_root_b1.FnSkipExact", spec := "fnSkipExact", apart := false }
def FnSkipExactSaid : Prop := fnSkipExactRow.holds Try.pinned (OpenSpec.ofChange fnSkipExactSpec)

/-- ITS FALSE NEIGHBOUR: 'it returns false'. Refute it at one input. -/
def fnSkipExactWrong : ChangeSpec := { name := "fnSkipExact", fn := fun _ => fun
  | [d1, d2, d3] => { results := [.lit (.bool false)], args := [d1, d2, d3] }
  | _ => none }
def FnSkipExactWrongFalsely : Prop := fnSkipExactRow.holds Try.pinned (OpenSpec.ofChange fnSkipExactWrong)

end Rows
end Go.Proofs.Qxb6604224a
