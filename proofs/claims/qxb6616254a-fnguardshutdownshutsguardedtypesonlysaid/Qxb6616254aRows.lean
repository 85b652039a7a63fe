/-
  No cell of these rows narrows 'for every input' (looked for: loops, veiled, ifaces, maps, wideKeys, modest, calm, conditions, laid).
  DERIVED. THE GIVEN ROWS OF THIS SEAT. 2 by the template 'for every input the law returns true; each argument reads behind the call as it read before'; 0 by the template 'total and deterministic' (their statements: Qxb6616254aTotals.lean).
  GIVEN WITH THE SEED: the statements are not yours to turn. If you find one false, say at which input.
  Laid BY PROGRAM, IN A SANDBOX (cutbox-rows.mjs): the forced cells as the released guide's own fill.sh prints them over the translation 228348b71cb968f5… (all of the seat's roots in one cut). By AI agents, Wed Nov 11 2026. No macro, syntax, notation, axiom, sorry.
-/
import Derived.Test.Qxb6616254aChecked
import GoSem.Claim
import GoSem.ClaimJoined
import GoSem.ClaimMapViews
import Derived.JoinedTies
import Derived.KernelRfl
namespace Go.Proofs.Qxb6616254a
/- THE CELL 'sum', in the pinned program and in every row, IS THE sha256 OF THE DUMP (.gsa) THAT Qxb6616254aProg.lean LOADS. Nothing in Lean hashes anything: it is a label: what it is worth is what the hold of that sum in a sandbox is worth. -/
noncomputable def Try.pinned : Pinned := { name := "qxb6616254a", sum := "228348b71cb968f53a5c978249390b86773b4732c68535c729a4a9e2579d9379", checked := Try.checked }
namespace Rows
def none {H : Type} : Left H := { results := [], args := [] }

/-- 'zzlaws_internal_storm_b1.FnGuardShutDownShutsGuardedTypesOnly': WHATEVER THE INPUT: true; the input reads as it did. -/
def fnGuardShutDownShutsGuardedTypesOnlySpec : ChangeSpec := { name := "fnGuardShutDownShutsGuardedTypesOnly", fn := fun _ => fun
  | [d1, d2, d3, d4, d5, d6, d7, d8] => { results := [.lit (.bool true)], args := [d1, d2, d3, d4, d5, d6, d7, d8] }
  | _ => none }
def fnGuardShutDownShutsGuardedTypesOnlyRow : OpenClaim := { program := "qxb6616254a", sum := "228348b71cb968f53a5c978249390b86773b4732c68535c729a4a9e2579d9379", func := "example.com/squallguard/squallguard/zzlaws_internal_storm_b1.FnGuardShutDownShutsGuardedTypesOnly", spec := "fnGuardShutDownShutsGuardedTypesOnly", apart := false }
def FnGuardShutDownShutsGuardedTypesOnlySaid : Prop := fnGuardShutDownShutsGuardedTypesOnlyRow.holds Try.pinned (OpenSpec.ofChange fnGuardShutDownShutsGuardedTypesOnlySpec)

/-- ITS FALSE NEIGHBOUR: 'it returns false'. Refute it at one input. -/
def fnGuardShutDownShutsGuardedTypesOnlyWrong : ChangeSpec := { name := "fnGuardShutDownShutsGuardedTypesOnly", fn := fun _ => fun
  | [d1, d2, d3, d4, d5, d6, d7, d8] => { results := [.lit (.bool false)], args := [d1, d2, d3, d4, d5, d6, d7, d8] }
  | _ => none }
def FnGuardShutDownShutsGuardedTypesOnlyWrongFalsely : Prop := fnGuardShutDownShutsGuardedTypesOnlyRow.holds Try.pinned (OpenSpec.ofChange fnGuardShutDownShutsGuardedTypesOnlyWrong)

/-- 'zzlaws_internal_storm_b1.FnGuardShutDownIsFinalAndIdempotent': WHATEVER THE INPUT: true; the input reads as it did. -/
def fnGuardShutDownIsFinalAndIdempotentSpec : ChangeSpec := { name := "fnGuardShutDownIsFinalAndIdempotent", fn := fun _ => fun
  | [d1, d2, d3, d4, d5, d6, d7, d8, d9, d10] => { results := [.lit (.bool true)], args := [d1, d2, d3, d4, d5, d6, d7, d8, d9, d10] }
  | _ => none }
def fnGuardShutDownIsFinalAndIdempotentRow : OpenClaim := { program := "qxb6616254a", sum := "228348b71cb968f53a5c978249390b86773b4732c68535c729a4a9e2579d9379", func := "example.com/squallguard/squallguard/zzlaws_internal_storm_b1.FnGuardShutDownIsFinalAndIdempotent", spec := "fnGuardShutDownIsFinalAndIdempotent", apart := false }
def FnGuardShutDownIsFinalAndIdempotentSaid : Prop := fnGuardShutDownIsFinalAndIdempotentRow.holds Try.pinned (OpenSpec.ofChange fnGuardShutDownIsFinalAndIdempotentSpec)

/-- ITS FALSE NEIGHBOUR: 'it returns false'. Refute it at one input. -/
def fnGuardShutDownIsFinalAndIdempotentWrong : ChangeSpec := { name := "fnGuardShutDownIsFinalAndIdempotent", fn := fun _ => fun
  | [d1, d2, d3, d4, d5, d6, d7, d8, d9, d10] => { results := [.lit (.bool false)], args := [d1, d2, d3, d4, d5, d6, d7, d8, d9, d10] }
  | _ => none }
def FnGuardShutDownIsFinalAndIdempotentWrongFalsely : Prop := fnGuardShutDownIsFinalAndIdempotentRow.holds Try.pinned (OpenSpec.ofChange fnGuardShutDownIsFinalAndIdempotentWrong)

end Rows
end Go.Proofs.Qxb6616254a
