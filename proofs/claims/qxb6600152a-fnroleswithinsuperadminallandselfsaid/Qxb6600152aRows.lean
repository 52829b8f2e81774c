/-
  No cell of these rows narrows 'for every input' (looked for: loops, veiled, ifaces, maps, wideKeys, modest, calm, conditions, laid).
  DERIVED. THE GIVEN ROWS OF THIS SEAT. 3 by the template 'for every input the law returns true; each argument reads behind the call as it read before'; 0 by the template 'total and deterministic' (their statements: Qxb6600152aTotals.lean).
  GIVEN WITH THE SEED: the statements are not yours to turn. If you find one false, say at which input.
  Laid BY PROGRAM, IN A SANDBOX (cutbox-rows.mjs): the forced cells as the released guide's own fill.sh prints them over the translation 49f743c3238ce762… (all of the seat's roots in one cut). By AI agents, Wed Nov 11 2026. No macro, syntax, notation, axiom, sorry.
-/
import Derived.Test.Qxb6600152aChecked
import GoSem.Claim
import GoSem.ClaimJoined
import GoSem.ClaimMapViews
import Derived.JoinedTies
import Derived.KernelRfl
namespace Go.Proofs.Qxb6600152a
/- THE CELL 'sum', in the pinned program and in every row, IS THE sha256 OF THE DUMP (.gsa) THAT Qxb6600152aProg.lean LOADS. Nothing in Lean hashes anything: it is a label: what it is worth is what the hold of that sum in a sandbox is worth. -/
noncomputable def Try.pinned : Pinned := { name := "qxb6600152a", sum := "49f743c3238ce762077c6e707b5468cf2d5ef105d9fd7f1b43a60478e3c2264f", checked := Try.checked }
namespace Rows
def none {H : Type} : Left H := { results := [], args := [] }

/-- 'zzlaws_tenancy_b1.FnPermissionsReturnsAFreshSlice': WHATEVER THE INPUT: true; the input reads as it did. -/
def fnPermissionsReturnsAFreshSliceSpec : ChangeSpec := { name := "fnPermissionsReturnsAFreshSlice", fn := fun _ => fun
  | [d1, d2, d3] => { results := [.lit (.bool true)], args := [d1, d2, d3] }
  | _ => none }
def fnPermissionsReturnsAFreshSliceRow : OpenClaim := { program := "qxb6600152a", sum := "49f743c3238ce762077c6e707b5468cf2d5ef105d9fd7f1b43a60478e3c2264f", func := "example.com/tenantd/tenantd/zzlaws_tenancy_b1.FnPermissionsReturnsAFreshSlice", spec := "fnPermissionsReturnsAFreshSlice", unfollowed := true, recurses := true, apart := false }
def FnPermissionsReturnsAFreshSliceSaid : Prop := fnPermissionsReturnsAFreshSliceRow.holds Try.pinned (OpenSpec.ofChange fnPermissionsReturnsAFreshSliceSpec)

/-- ITS FALSE NEIGHBOUR: 'it returns false'. Refute it at one input. -/
def fnPermissionsReturnsAFreshSliceWrong : ChangeSpec := { name := "fnPermissionsReturnsAFreshSlice", fn := fun _ => fun
  | [d1, d2, d3] => { results := [.lit (.bool false)], args := [d1, d2, d3] }
  | _ => none }
def FnPermissionsReturnsAFreshSliceWrongFalsely : Prop := fnPermissionsReturnsAFreshSliceRow.holds Try.pinned (OpenSpec.ofChange fnPermissionsReturnsAFreshSliceWrong)

/-- 'zzlaws_tenancy_b1.FnRolesWithinSuperAdminAllAndSelf': WHATEVER THE INPUT: true; the input reads as it did. -/
def fnRolesWithinSuperAdminAllAndSelfSpec : ChangeSpec := { name := "fnRolesWithinSuperAdminAllAndSelf", fn := fun _ => fun
  | [d1, d2, d3] => { results := [.lit (.bool true)], args := [d1, d2, d3] }
  | _ => none }
def fnRolesWithinSuperAdminAllAndSelfRow : OpenClaim := { program := "qxb6600152a", sum := "49f743c3238ce762077c6e707b5468cf2d5ef105d9fd7f1b43a60478e3c2264f", func := "example.com/tenantd/tenantd/zzlaws_tenancy_b1.FnRolesWithinSuperAdminAllAndSelf", spec := "fnRolesWithinSuperAdminAllAndSelf", unfollowed := true, recurses := true, apart := false }
def FnRolesWithinSuperAdminAllAndSelfSaid : Prop := fnRolesWithinSuperAdminAllAndSelfRow.holds Try.pinned (OpenSpec.ofChange fnRolesWithinSuperAdminAllAndSelfSpec)

/-- ITS FALSE NEIGHBOUR: 'it returns false'. Refute it at one input. -/
def fnRolesWithinSuperAdminAllAndSelfWrong : ChangeSpec := { name := "fnRolesWithinSuperAdminAllAndSelf", fn := fun _ => fun
  | [d1, d2, d3] => { results := [.lit (.bool false)], args := [d1, d2, d3] }
  | _ => none }
def FnRolesWithinSuperAdminAllAndSelfWrongFalsely : Prop := fnRolesWithinSuperAdminAllAndSelfRow.holds Try.pinned (OpenSpec.ofChange fnRolesWithinSuperAdminAllAndSelfWrong)

/-- 'zzlaws_tenancy_b1.FnRolesWithinMonotoneAndTransitive': WHATEVER THE INPUT: true; the input reads as it did. -/
def fnRolesWithinMonotoneAndTransitiveSpec : ChangeSpec := { name := "fnRolesWithinMonotoneAndTransitive", fn := fun _ => fun
  | [d1, d2, d3, d4] => { results := [.lit (.bool true)], args := [d1, d2, d3, d4] }
  | _ => none }
def fnRolesWithinMonotoneAndTransitiveRow : OpenClaim := { program := "qxb6600152a", sum := "49f743c3238ce762077c6e707b5468cf2d5ef105d9fd7f1b43a60478e3c2264f", func := "example.com/tenantd/tenantd/zzlaws_tenancy_b1.FnRolesWithinMonotoneAndTransitive", spec := "fnRolesWithinMonotoneAndTransitive", unfollowed := true, recurses := true, apart := false }
def FnRolesWithinMonotoneAndTransitiveSaid : Prop := fnRolesWithinMonotoneAndTransitiveRow.holds Try.pinned (OpenSpec.ofChange fnRolesWithinMonotoneAndTransitiveSpec)

/-- ITS FALSE NEIGHBOUR: 'it returns false'. Refute it at one input. -/
def fnRolesWithinMonotoneAndTransitiveWrong : ChangeSpec := { name := "fnRolesWithinMonotoneAndTransitive", fn := fun _ => fun
  | [d1, d2, d3, d4] => { results := [.lit (.bool false)], args := [d1, d2, d3, d4] }
  | _ => none }
def FnRolesWithinMonotoneAndTransitiveWrongFalsely : Prop := fnRolesWithinMonotoneAndTransitiveRow.holds Try.pinned (OpenSpec.ofChange fnRolesWithinMonotoneAndTransitiveWrong)

end Rows
end Go.Proofs.Qxb6600152a
