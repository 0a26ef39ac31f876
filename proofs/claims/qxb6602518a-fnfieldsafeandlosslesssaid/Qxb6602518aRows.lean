/-
  No cell of these rows narrows 'for every input' (looked for: loops, veiled, ifaces, maps, wideKeys, modest, calm, conditions, laid).
  DERIVED. THE GIVEN ROWS OF THIS SEAT. 2 by the template 'for every input the law returns true; each argument reads behind the call as it read before'; 0 by the template 'total and deterministic' (their statements: Qxb6602518aTotals.lean).
  GIVEN WITH THE SEED: the statements are not yours to turn. If you find one false, say at which input.
  Laid BY PROGRAM, IN A SANDBOX (cutbox-rows.mjs): the forced cells as the released guide's own fill.sh prints them over the translation a05d61329b15fa25… (all of the seat's roots in one cut). By AI agents, Wed Nov 11 2026. No macro, syntax, notation, axiom, sorry.
-/
import Derived.Test.Qxb6602518aChecked
import GoSem.Claim
import GoSem.ClaimJoined
import GoSem.ClaimMapViews
import Derived.JoinedTies
import Derived.KernelRfl
namespace Go.Proofs.Qxb6602518a
/- THE CELL 'sum', in the pinned program and in every row, IS THE sha256 OF THE DUMP (.gsa) THAT Qxb6602518aProg.lean LOADS. Nothing in Lean hashes anything: it is a label: what it is worth is what the hold of that sum in a sandbox is worth. -/
noncomputable def Try.pinned : Pinned := { name := "qxb6602518a", sum := "a05d61329b15fa252e746402122e0470be45cccf26db7cf58fe8f9f9dbebc4a5", checked := Try.checked }
namespace Rows
def none {H : Type} : Left H := { results := [], args := [] }

/-- 'zzlaws_pkg_csvtext_b1.FnFieldSafeAndLossless': WHATEVER THE INPUT: true; the input reads as it did. -/
def fnFieldSafeAndLosslessSpec : ChangeSpec := { name := "fnFieldSafeAndLossless", fn := fun _ => fun
  | [d] => { results := [.lit (.bool true)], args := [d] }
  | _ => none }
def fnFieldSafeAndLosslessRow : OpenClaim := { program := "qxb6602518a", sum := "a05d61329b15fa252e746402122e0470be45cccf26db7cf58fe8f9f9dbebc4a5", func := "example.com/volakiri/volakiri/zzlaws_pkg_csvtext_b1.FnFieldSafeAndLossless", spec := "fnFieldSafeAndLossless", inPlace := ["internal/bytealg.IndexByteString"], apart := false }
def FnFieldSafeAndLosslessSaid : Prop := fnFieldSafeAndLosslessRow.holds Try.pinned (OpenSpec.ofChange fnFieldSafeAndLosslessSpec)

/-- ITS FALSE NEIGHBOUR: 'it returns false'. Refute it at one input. -/
def fnFieldSafeAndLosslessWrong : ChangeSpec := { name := "fnFieldSafeAndLossless", fn := fun _ => fun
  | [d] => { results := [.lit (.bool false)], args := [d] }
  | _ => none }
def FnFieldSafeAndLosslessWrongFalsely : Prop := fnFieldSafeAndLosslessRow.holds Try.pinned (OpenSpec.ofChange fnFieldSafeAndLosslessWrong)

/-- 'zzlaws_pkg_csvtext_b1.FnFieldIdempotent': WHATEVER THE INPUT: true; the input reads as it did. -/
def fnFieldIdempotentSpec : ChangeSpec := { name := "fnFieldIdempotent", fn := fun _ => fun
  | [d] => { results := [.lit (.bool true)], args := [d] }
  | _ => none }
def fnFieldIdempotentRow : OpenClaim := { program := "qxb6602518a", sum := "a05d61329b15fa252e746402122e0470be45cccf26db7cf58fe8f9f9dbebc4a5", func := "example.com/volakiri/volakiri/zzlaws_pkg_csvtext_b1.FnFieldIdempotent", spec := "fnFieldIdempotent", inPlace := ["internal/bytealg.IndexByteString"], apart := false }
def FnFieldIdempotentSaid : Prop := fnFieldIdempotentRow.holds Try.pinned (OpenSpec.ofChange fnFieldIdempotentSpec)

/-- ITS FALSE NEIGHBOUR: 'it returns false'. Refute it at one input. -/
def fnFieldIdempotentWrong : ChangeSpec := { name := "fnFieldIdempotent", fn := fun _ => fun
  | [d] => { results := [.lit (.bool false)], args := [d] }
  | _ => none }
def FnFieldIdempotentWrongFalsely : Prop := fnFieldIdempotentRow.holds Try.pinned (OpenSpec.ofChange fnFieldIdempotentWrong)

end Rows
end Go.Proofs.Qxb6602518a
