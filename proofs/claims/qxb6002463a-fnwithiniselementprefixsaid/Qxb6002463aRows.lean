/-
  No cell of these rows narrows 'for every input' (looked for: loops, veiled, ifaces, maps, wideKeys, modest, calm, conditions, laid).
  DERIVED. THE GIVEN ROWS OF THIS SEAT. 8 by the template 'for every input the law returns true; each argument reads behind the call as it read before'; 0 by the template 'total and deterministic' (their statements: Qxb6002463aTotals.lean).
  GIVEN WITH THE SEED: the statements are not yours to turn. If you find one false, say at which input.
  Laid BY PROGRAM, IN A SANDBOX (cutbox-rows.mjs): the forced cells as the released guide's own fill.sh prints them over the translation 5eea9e4059723b02… (all of the seat's roots in one cut). By AI agents, Wed Nov 11 2026. No macro, syntax, notation, axiom, sorry.
-/
import Derived.Test.Qxb6002463aChecked
import GoSem.Claim
import GoSem.ClaimJoined
import GoSem.ClaimMapViews
import Derived.JoinedTies
import Derived.KernelRfl
namespace Go.Proofs.Qxb6002463a
/- THE CELL 'sum', in the pinned program and in every row, IS THE sha256 OF THE DUMP (.gsa) THAT Qxb6002463aProg.lean LOADS. Nothing in Lean hashes anything: it is a label: what it is worth is what the hold of that sum in a sandbox is worth. -/
noncomputable def Try.pinned : Pinned := { name := "qxb6002463a", sum := "5eea9e4059723b02a089647e578f446c77c5ec16f17a33a0fe2bd2ca161336ce", checked := Try.checked }
namespace Rows
def none {H : Type} : Left H := { results := [], args := [] }

/-- 'zzlaws_fstools_g1.FnWalksFirstIsTreeOrder': WHATEVER THE INPUT: true; the input reads as it did. -/
def fnWalksFirstIsTreeOrderSpec : ChangeSpec := { name := "fnWalksFirstIsTreeOrder", fn := fun _ => fun
  | [d1, d2] => { results := [.lit (.bool true)], args := [d1, d2] }
  | _ => none }
def fnWalksFirstIsTreeOrderRow : OpenClaim := { program := "qxb6002463a", sum := "5eea9e4059723b02a089647e578f446c77c5ec16f17a33a0fe2bd2ca161336ce", func := "example.com/underglass/underglass/zzlaws_fstools_g1.FnWalksFirstIsTreeOrder", spec := "fnWalksFirstIsTreeOrder", apart := false }
def FnWalksFirstIsTreeOrderSaid : Prop := fnWalksFirstIsTreeOrderRow.holds Try.pinned (OpenSpec.ofChange fnWalksFirstIsTreeOrderSpec)

/-- ITS FALSE NEIGHBOUR: 'it returns false'. Refute it at one input. -/
def fnWalksFirstIsTreeOrderWrong : ChangeSpec := { name := "fnWalksFirstIsTreeOrder", fn := fun _ => fun
  | [d1, d2] => { results := [.lit (.bool false)], args := [d1, d2] }
  | _ => none }
def FnWalksFirstIsTreeOrderWrongFalsely : Prop := fnWalksFirstIsTreeOrderRow.holds Try.pinned (OpenSpec.ofChange fnWalksFirstIsTreeOrderWrong)

/-- 'zzlaws_fstools_g1.FnWalksFirstStrictTotalOrder': WHATEVER THE INPUT: true; the input reads as it did. -/
def fnWalksFirstStrictTotalOrderSpec : ChangeSpec := { name := "fnWalksFirstStrictTotalOrder", fn := fun _ => fun
  | [d1, d2, d3] => { results := [.lit (.bool true)], args := [d1, d2, d3] }
  | _ => none }
def fnWalksFirstStrictTotalOrderRow : OpenClaim := { program := "qxb6002463a", sum := "5eea9e4059723b02a089647e578f446c77c5ec16f17a33a0fe2bd2ca161336ce", func := "example.com/underglass/underglass/zzlaws_fstools_g1.FnWalksFirstStrictTotalOrder", spec := "fnWalksFirstStrictTotalOrder", apart := false }
def FnWalksFirstStrictTotalOrderSaid : Prop := fnWalksFirstStrictTotalOrderRow.holds Try.pinned (OpenSpec.ofChange fnWalksFirstStrictTotalOrderSpec)

/-- ITS FALSE NEIGHBOUR: 'it returns false'. Refute it at one input. -/
def fnWalksFirstStrictTotalOrderWrong : ChangeSpec := { name := "fnWalksFirstStrictTotalOrder", fn := fun _ => fun
  | [d1, d2, d3] => { results := [.lit (.bool false)], args := [d1, d2, d3] }
  | _ => none }
def FnWalksFirstStrictTotalOrderWrongFalsely : Prop := fnWalksFirstStrictTotalOrderRow.holds Try.pinned (OpenSpec.ofChange fnWalksFirstStrictTotalOrderWrong)

/-- 'zzlaws_fstools_g1.FnBelowKeepsWalkOrder': WHATEVER THE INPUT: true; the input reads as it did. -/
def fnBelowKeepsWalkOrderSpec : ChangeSpec := { name := "fnBelowKeepsWalkOrder", fn := fun _ => fun
  | [d1, d2, d3] => { results := [.lit (.bool true)], args := [d1, d2, d3] }
  | _ => none }
def fnBelowKeepsWalkOrderRow : OpenClaim := { program := "qxb6002463a", sum := "5eea9e4059723b02a089647e578f446c77c5ec16f17a33a0fe2bd2ca161336ce", func := "example.com/underglass/underglass/zzlaws_fstools_g1.FnBelowKeepsWalkOrder", spec := "fnBelowKeepsWalkOrder", apart := false }
def FnBelowKeepsWalkOrderSaid : Prop := fnBelowKeepsWalkOrderRow.holds Try.pinned (OpenSpec.ofChange fnBelowKeepsWalkOrderSpec)

/-- ITS FALSE NEIGHBOUR: 'it returns false'. Refute it at one input. -/
def fnBelowKeepsWalkOrderWrong : ChangeSpec := { name := "fnBelowKeepsWalkOrder", fn := fun _ => fun
  | [d1, d2, d3] => { results := [.lit (.bool false)], args := [d1, d2, d3] }
  | _ => none }
def FnBelowKeepsWalkOrderWrongFalsely : Prop := fnBelowKeepsWalkOrderRow.holds Try.pinned (OpenSpec.ofChange fnBelowKeepsWalkOrderWrong)

/-- 'zzlaws_internal_hostcall_g1.FnLowerOrderFreeAndIdempotent': WHATEVER THE INPUT: true; the input reads as it did. -/
def fnLowerOrderFreeAndIdempotentSpec : ChangeSpec := { name := "fnLowerOrderFreeAndIdempotent", fn := fun _ => fun
  | [d1, d2, d3] => { results := [.lit (.bool true)], args := [d1, d2, d3] }
  | _ => none }
def fnLowerOrderFreeAndIdempotentRow : OpenClaim := { program := "qxb6002463a", sum := "5eea9e4059723b02a089647e578f446c77c5ec16f17a33a0fe2bd2ca161336ce", func := "example.com/underglass/underglass/zzlaws_internal_hostcall_g1.FnLowerOrderFreeAndIdempotent", spec := "fnLowerOrderFreeAndIdempotent", apart := false }
def FnLowerOrderFreeAndIdempotentSaid : Prop := fnLowerOrderFreeAndIdempotentRow.holds Try.pinned (OpenSpec.ofChange fnLowerOrderFreeAndIdempotentSpec)

/-- ITS FALSE NEIGHBOUR: 'it returns false'. Refute it at one input. -/
def fnLowerOrderFreeAndIdempotentWrong : ChangeSpec := { name := "fnLowerOrderFreeAndIdempotent", fn := fun _ => fun
  | [d1, d2, d3] => { results := [.lit (.bool false)], args := [d1, d2, d3] }
  | _ => none }
def FnLowerOrderFreeAndIdempotentWrongFalsely : Prop := fnLowerOrderFreeAndIdempotentRow.holds Try.pinned (OpenSpec.ofChange fnLowerOrderFreeAndIdempotentWrong)

/-- 'zzlaws_internal_hostcall_g1.FnLowerNeverRaisesAndMeetsBound': WHATEVER THE INPUT: true; the input reads as it did. -/
def fnLowerNeverRaisesAndMeetsBoundSpec : ChangeSpec := { name := "fnLowerNeverRaisesAndMeetsBound", fn := fun _ => fun
  | [d1, d2] => { results := [.lit (.bool true)], args := [d1, d2] }
  | _ => none }
def fnLowerNeverRaisesAndMeetsBoundRow : OpenClaim := { program := "qxb6002463a", sum := "5eea9e4059723b02a089647e578f446c77c5ec16f17a33a0fe2bd2ca161336ce", func := "example.com/underglass/underglass/zzlaws_internal_hostcall_g1.FnLowerNeverRaisesAndMeetsBound", spec := "fnLowerNeverRaisesAndMeetsBound", apart := false }
def FnLowerNeverRaisesAndMeetsBoundSaid : Prop := fnLowerNeverRaisesAndMeetsBoundRow.holds Try.pinned (OpenSpec.ofChange fnLowerNeverRaisesAndMeetsBoundSpec)

/-- ITS FALSE NEIGHBOUR: 'it returns false'. Refute it at one input. -/
def fnLowerNeverRaisesAndMeetsBoundWrong : ChangeSpec := { name := "fnLowerNeverRaisesAndMeetsBound", fn := fun _ => fun
  | [d1, d2] => { results := [.lit (.bool false)], args := [d1, d2] }
  | _ => none }
def FnLowerNeverRaisesAndMeetsBoundWrongFalsely : Prop := fnLowerNeverRaisesAndMeetsBoundRow.holds Try.pinned (OpenSpec.ofChange fnLowerNeverRaisesAndMeetsBoundWrong)

/-- 'zzlaws_internal_overlay_g1.FnWithinIsElementPrefix': WHATEVER THE INPUT: true; the input reads as it did. -/
def fnWithinIsElementPrefixSpec : ChangeSpec := { name := "fnWithinIsElementPrefix", fn := fun _ => fun
  | [d1, d2] => { results := [.lit (.bool true)], args := [d1, d2] }
  | _ => none }
def fnWithinIsElementPrefixRow : OpenClaim := { program := "qxb6002463a", sum := "5eea9e4059723b02a089647e578f446c77c5ec16f17a33a0fe2bd2ca161336ce", func := "example.com/underglass/underglass/zzlaws_internal_overlay_g1.FnWithinIsElementPrefix", spec := "fnWithinIsElementPrefix", apart := false }
def FnWithinIsElementPrefixSaid : Prop := fnWithinIsElementPrefixRow.holds Try.pinned (OpenSpec.ofChange fnWithinIsElementPrefixSpec)

/-- ITS FALSE NEIGHBOUR: 'it returns false'. Refute it at one input. -/
def fnWithinIsElementPrefixWrong : ChangeSpec := { name := "fnWithinIsElementPrefix", fn := fun _ => fun
  | [d1, d2] => { results := [.lit (.bool false)], args := [d1, d2] }
  | _ => none }
def FnWithinIsElementPrefixWrongFalsely : Prop := fnWithinIsElementPrefixRow.holds Try.pinned (OpenSpec.ofChange fnWithinIsElementPrefixWrong)

/-- 'zzlaws_internal_overlay_g1.FnClearShowsNothing': WHATEVER THE INPUT: true; the input reads as it did. -/
def fnClearShowsNothingSpec : ChangeSpec := { name := "fnClearShowsNothing", fn := fun _ => fun
  | [d1, d2, d3, d4, d5, d6] => { results := [.lit (.bool true)], args := [d1, d2, d3, d4, d5, d6] }
  | _ => none }
def fnClearShowsNothingRow : OpenClaim := { program := "qxb6002463a", sum := "5eea9e4059723b02a089647e578f446c77c5ec16f17a33a0fe2bd2ca161336ce", func := "example.com/underglass/underglass/zzlaws_internal_overlay_g1.FnClearShowsNothing", spec := "fnClearShowsNothing", inPlace := ["internal/bytealg.IndexByteString", "internal/bytealg.IndexString"], recurses := true, named := ["internal/bytealg.MaxLen"], apart := false }
def FnClearShowsNothingSaid : Prop := fnClearShowsNothingRow.holds Try.pinned (OpenSpec.ofChange fnClearShowsNothingSpec)

/-- ITS FALSE NEIGHBOUR: 'it returns false'. Refute it at one input. -/
def fnClearShowsNothingWrong : ChangeSpec := { name := "fnClearShowsNothing", fn := fun _ => fun
  | [d1, d2, d3, d4, d5, d6] => { results := [.lit (.bool false)], args := [d1, d2, d3, d4, d5, d6] }
  | _ => none }
def FnClearShowsNothingWrongFalsely : Prop := fnClearShowsNothingRow.holds Try.pinned (OpenSpec.ofChange fnClearShowsNothingWrong)

/-- 'zzlaws_internal_overlay_g1.FnForgetOnlyHides': WHATEVER THE INPUT: true; the input reads as it did. -/
def fnForgetOnlyHidesSpec : ChangeSpec := { name := "fnForgetOnlyHides", fn := fun _ => fun
  | [d1, d2, d3, d4, d5, d6, d7] => { results := [.lit (.bool true)], args := [d1, d2, d3, d4, d5, d6, d7] }
  | _ => none }
def fnForgetOnlyHidesRow : OpenClaim := { program := "qxb6002463a", sum := "5eea9e4059723b02a089647e578f446c77c5ec16f17a33a0fe2bd2ca161336ce", func := "example.com/underglass/underglass/zzlaws_internal_overlay_g1.FnForgetOnlyHides", spec := "fnForgetOnlyHides", inPlace := ["internal/bytealg.IndexByteString", "internal/bytealg.IndexString"], recurses := true, named := ["internal/bytealg.MaxLen"], apart := false }
def FnForgetOnlyHidesSaid : Prop := fnForgetOnlyHidesRow.holds Try.pinned (OpenSpec.ofChange fnForgetOnlyHidesSpec)

/-- ITS FALSE NEIGHBOUR: 'it returns false'. Refute it at one input. -/
def fnForgetOnlyHidesWrong : ChangeSpec := { name := "fnForgetOnlyHides", fn := fun _ => fun
  | [d1, d2, d3, d4, d5, d6, d7] => { results := [.lit (.bool false)], args := [d1, d2, d3, d4, d5, d6, d7] }
  | _ => none }
def FnForgetOnlyHidesWrongFalsely : Prop := fnForgetOnlyHidesRow.holds Try.pinned (OpenSpec.ofChange fnForgetOnlyHidesWrong)

end Rows
end Go.Proofs.Qxb6002463a
