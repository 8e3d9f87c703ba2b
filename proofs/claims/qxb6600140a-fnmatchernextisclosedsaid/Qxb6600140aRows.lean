/-
  No cell of these rows narrows 'for every input' (looked for: loops, veiled, ifaces, maps, wideKeys, modest, calm, conditions, laid).
  DERIVED. THE GIVEN ROWS OF THIS SEAT. 6 by the template 'for every input the law returns true; each argument reads behind the call as it read before'; 0 by the template 'total and deterministic' (their statements: Qxb6600140aTotals.lean).
  GIVEN WITH THE SEED: the statements are not yours to turn. If you find one false, say at which input.
  Laid BY PROGRAM, IN A SANDBOX (cutbox-rows.mjs): the forced cells as the released guide's own fill.sh prints them over the translation 18df833c92e2b5ca… (all of the seat's roots in one cut). By AI agents, Wed Nov 11 2026. No macro, syntax, notation, axiom, sorry.
-/
import Derived.Test.Qxb6600140aChecked
import GoSem.Claim
import GoSem.ClaimJoined
import GoSem.ClaimMapViews
import Derived.JoinedTies
import Derived.KernelRfl
namespace Go.Proofs.Qxb6600140a
/- THE CELL 'sum', in the pinned program and in every row, IS THE sha256 OF THE DUMP (.gsa) THAT Qxb6600140aProg.lean LOADS. Nothing in Lean hashes anything: it is a label: what it is worth is what the hold of that sum in a sandbox is worth. -/
noncomputable def Try.pinned : Pinned := { name := "qxb6600140a", sum := "18df833c92e2b5ca65a1e107cb287185556db822fe5e20a1a8171f5348a45539", checked := Try.checked }
namespace Rows
def none {H : Type} : Left H := { results := [], args := [] }

/-- 'zzlaws_manifest_b1.FnIsTokenExactlyTcharBytes': WHATEVER THE INPUT: true; the input reads as it did. -/
def fnIsTokenExactlyTcharBytesSpec : ChangeSpec := { name := "fnIsTokenExactlyTcharBytes", fn := fun _ => fun
  | [d] => { results := [.lit (.bool true)], args := [d] }
  | _ => none }
def fnIsTokenExactlyTcharBytesRow : OpenClaim := { program := "qxb6600140a", sum := "18df833c92e2b5ca65a1e107cb287185556db822fe5e20a1a8171f5348a45539", func := "example.com/clevis-pin/clevis-pin/zzlaws_manifest_b1.FnIsTokenExactlyTcharBytes", spec := "fnIsTokenExactlyTcharBytes", inPlace := ["internal/bytealg.IndexByteString", "internal/bytealg.IndexString"], named := ["internal/bytealg.MaxLen"], apart := false }
def FnIsTokenExactlyTcharBytesSaid : Prop := fnIsTokenExactlyTcharBytesRow.holds Try.pinned (OpenSpec.ofChange fnIsTokenExactlyTcharBytesSpec)

/-- ITS FALSE NEIGHBOUR: 'it returns false'. Refute it at one input. -/
def fnIsTokenExactlyTcharBytesWrong : ChangeSpec := { name := "fnIsTokenExactlyTcharBytes", fn := fun _ => fun
  | [d] => { results := [.lit (.bool false)], args := [d] }
  | _ => none }
def FnIsTokenExactlyTcharBytesWrongFalsely : Prop := fnIsTokenExactlyTcharBytesRow.holds Try.pinned (OpenSpec.ofChange fnIsTokenExactlyTcharBytesWrong)

/-- 'zzlaws_manifest_b1.FnIsTokenSplitsAnywhere': WHATEVER THE INPUT: true; the input reads as it did. -/
def fnIsTokenSplitsAnywhereSpec : ChangeSpec := { name := "fnIsTokenSplitsAnywhere", fn := fun _ => fun
  | [d1, d2] => { results := [.lit (.bool true)], args := [d1, d2] }
  | _ => none }
def fnIsTokenSplitsAnywhereRow : OpenClaim := { program := "qxb6600140a", sum := "18df833c92e2b5ca65a1e107cb287185556db822fe5e20a1a8171f5348a45539", func := "example.com/clevis-pin/clevis-pin/zzlaws_manifest_b1.FnIsTokenSplitsAnywhere", spec := "fnIsTokenSplitsAnywhere", inPlace := ["internal/bytealg.IndexByteString", "internal/bytealg.IndexString"], named := ["internal/bytealg.MaxLen"], apart := false }
def FnIsTokenSplitsAnywhereSaid : Prop := fnIsTokenSplitsAnywhereRow.holds Try.pinned (OpenSpec.ofChange fnIsTokenSplitsAnywhereSpec)

/-- ITS FALSE NEIGHBOUR: 'it returns false'. Refute it at one input. -/
def fnIsTokenSplitsAnywhereWrong : ChangeSpec := { name := "fnIsTokenSplitsAnywhere", fn := fun _ => fun
  | [d1, d2] => { results := [.lit (.bool false)], args := [d1, d2] }
  | _ => none }
def FnIsTokenSplitsAnywhereWrongFalsely : Prop := fnIsTokenSplitsAnywhereRow.holds Try.pinned (OpenSpec.ofChange fnIsTokenSplitsAnywhereWrong)

/-- 'zzlaws_manifest_b1.FnIsTokenIgnoresASCIICase': WHATEVER THE INPUT: true; the input reads as it did. -/
def fnIsTokenIgnoresASCIICaseSpec : ChangeSpec := { name := "fnIsTokenIgnoresASCIICase", fn := fun _ => fun
  | [d] => { results := [.lit (.bool true)], args := [d] }
  | _ => none }
def fnIsTokenIgnoresASCIICaseRow : OpenClaim := { program := "qxb6600140a", sum := "18df833c92e2b5ca65a1e107cb287185556db822fe5e20a1a8171f5348a45539", func := "example.com/clevis-pin/clevis-pin/zzlaws_manifest_b1.FnIsTokenIgnoresASCIICase", spec := "fnIsTokenIgnoresASCIICase", inPlace := ["internal/bytealg.IndexByteString", "internal/bytealg.IndexString"], named := ["internal/bytealg.MaxLen"], apart := false }
def FnIsTokenIgnoresASCIICaseSaid : Prop := fnIsTokenIgnoresASCIICaseRow.holds Try.pinned (OpenSpec.ofChange fnIsTokenIgnoresASCIICaseSpec)

/-- ITS FALSE NEIGHBOUR: 'it returns false'. Refute it at one input. -/
def fnIsTokenIgnoresASCIICaseWrong : ChangeSpec := { name := "fnIsTokenIgnoresASCIICase", fn := fun _ => fun
  | [d] => { results := [.lit (.bool false)], args := [d] }
  | _ => none }
def FnIsTokenIgnoresASCIICaseWrongFalsely : Prop := fnIsTokenIgnoresASCIICaseRow.holds Try.pinned (OpenSpec.ofChange fnIsTokenIgnoresASCIICaseWrong)

/-- 'zzlaws_manifest_b1.FnMatcherFindsLongestFormEnding': WHATEVER THE INPUT: true; the input reads as it did. -/
def fnMatcherFindsLongestFormEndingSpec : ChangeSpec := { name := "fnMatcherFindsLongestFormEnding", fn := fun _ => fun
  | [d1, d2] => { results := [.lit (.bool true)], args := [d1, d2] }
  | _ => none }
def fnMatcherFindsLongestFormEndingRow : OpenClaim := { program := "qxb6600140a", sum := "18df833c92e2b5ca65a1e107cb287185556db822fe5e20a1a8171f5348a45539", func := "example.com/clevis-pin/clevis-pin/zzlaws_manifest_b1.FnMatcherFindsLongestFormEnding", spec := "fnMatcherFindsLongestFormEnding", apart := false }
def FnMatcherFindsLongestFormEndingSaid : Prop := fnMatcherFindsLongestFormEndingRow.holds Try.pinned (OpenSpec.ofChange fnMatcherFindsLongestFormEndingSpec)

/-- ITS FALSE NEIGHBOUR: 'it returns false'. Refute it at one input. -/
def fnMatcherFindsLongestFormEndingWrong : ChangeSpec := { name := "fnMatcherFindsLongestFormEnding", fn := fun _ => fun
  | [d1, d2] => { results := [.lit (.bool false)], args := [d1, d2] }
  | _ => none }
def FnMatcherFindsLongestFormEndingWrongFalsely : Prop := fnMatcherFindsLongestFormEndingRow.holds Try.pinned (OpenSpec.ofChange fnMatcherFindsLongestFormEndingWrong)

/-- 'zzlaws_manifest_b1.FnMatcherStateForgetsOlderText': WHATEVER THE INPUT: true; the input reads as it did. -/
def fnMatcherStateForgetsOlderTextSpec : ChangeSpec := { name := "fnMatcherStateForgetsOlderText", fn := fun _ => fun
  | [d1, d2, d3] => { results := [.lit (.bool true)], args := [d1, d2, d3] }
  | _ => none }
def fnMatcherStateForgetsOlderTextRow : OpenClaim := { program := "qxb6600140a", sum := "18df833c92e2b5ca65a1e107cb287185556db822fe5e20a1a8171f5348a45539", func := "example.com/clevis-pin/clevis-pin/zzlaws_manifest_b1.FnMatcherStateForgetsOlderText", spec := "fnMatcherStateForgetsOlderText", apart := false }
def FnMatcherStateForgetsOlderTextSaid : Prop := fnMatcherStateForgetsOlderTextRow.holds Try.pinned (OpenSpec.ofChange fnMatcherStateForgetsOlderTextSpec)

/-- ITS FALSE NEIGHBOUR: 'it returns false'. Refute it at one input. -/
def fnMatcherStateForgetsOlderTextWrong : ChangeSpec := { name := "fnMatcherStateForgetsOlderText", fn := fun _ => fun
  | [d1, d2, d3] => { results := [.lit (.bool false)], args := [d1, d2, d3] }
  | _ => none }
def FnMatcherStateForgetsOlderTextWrongFalsely : Prop := fnMatcherStateForgetsOlderTextRow.holds Try.pinned (OpenSpec.ofChange fnMatcherStateForgetsOlderTextWrong)

/-- 'zzlaws_manifest_b1.FnMatcherNextIsClosed': WHATEVER THE INPUT: true; the input reads as it did. -/
def fnMatcherNextIsClosedSpec : ChangeSpec := { name := "fnMatcherNextIsClosed", fn := fun _ => fun
  | [d] => { results := [.lit (.bool true)], args := [d] }
  | _ => none }
def fnMatcherNextIsClosedRow : OpenClaim := { program := "qxb6600140a", sum := "18df833c92e2b5ca65a1e107cb287185556db822fe5e20a1a8171f5348a45539", func := "example.com/clevis-pin/clevis-pin/zzlaws_manifest_b1.FnMatcherNextIsClosed", spec := "fnMatcherNextIsClosed", apart := false }
def FnMatcherNextIsClosedSaid : Prop := fnMatcherNextIsClosedRow.holds Try.pinned (OpenSpec.ofChange fnMatcherNextIsClosedSpec)

/-- ITS FALSE NEIGHBOUR: 'it returns false'. Refute it at one input. -/
def fnMatcherNextIsClosedWrong : ChangeSpec := { name := "fnMatcherNextIsClosed", fn := fun _ => fun
  | [d] => { results := [.lit (.bool false)], args := [d] }
  | _ => none }
def FnMatcherNextIsClosedWrongFalsely : Prop := fnMatcherNextIsClosedRow.holds Try.pinned (OpenSpec.ofChange fnMatcherNextIsClosedWrong)

end Rows
end Go.Proofs.Qxb6600140a
