/-
  No cell of these rows narrows 'for every input' (looked for: loops, veiled, ifaces, maps, wideKeys, modest, calm, conditions, laid).
  DERIVED. THE GIVEN ROWS OF THIS SEAT. 2 by the template 'for every input the law returns true; each argument reads behind the call as it read before'; 0 by the template 'total and deterministic' (their statements: YoefowTotals.lean).
  GIVEN WITH THE SEED: the statements are not yours to turn. If you find one false, say at which input.
  Laid BY PROGRAM, IN A SANDBOX (cutbox-rows.mjs): the forced cells as the released guide's own fill.sh prints them over the translation afe0aa9d576259bd… (all of the seat's roots in one cut). By AI agents, Wed Nov 11 2026. No macro, syntax, notation, axiom, sorry.
-/
import Derived.Test.YoefowChecked
import GoSem.Claim
import GoSem.ClaimJoined
import GoSem.ClaimMapViews
import Derived.JoinedTies
import Derived.KernelRfl
namespace Go.Proofs.Yoefow
/- THE CELL 'sum', in the pinned program and in every row, IS THE sha256 OF THE DUMP (.gsa) THAT YoefowProg.lean LOADS. Nothing in Lean hashes anything: it is a label: what it is worth is what the hold of that sum in a sandbox is worth. -/
noncomputable def Efog.pinned : Pinned := { name := "yoefow", sum := "afe0aa9d576259bd44ad22417c415f733922387e72ab1f9298b2e8bc3854da41", checked := Efog.checked }
namespace Rows
def none {H : Type} : Left H := { results := [], args := [] }

/-- 'zzlaws_root_b1.FnErrorEqualsIsIdentity': WHATEVER THE INPUT: true; the input reads as it did. -/
def fnErrorEqualsIsIdentitySpec : ChangeSpec := { name := "fnErrorEqualsIsIdentity", fn := fun _ => fun
  | [d1, d2] => { results := [.lit (.bool true)], args := [d1, d2] }
  | _ => none }
def fnErrorEqualsIsIdentityRow : OpenClaim := { program := "yoefow", sum := "afe0aa9d576259bd44ad22417c415f733922387e72ab1f9298b2e8bc3854da41", func := "github.com/d5/tengo/v2/zzlaws_root_b1.FnErrorEqualsIsIdentity", spec := "fnErrorEqualsIsIdentity", unfollowed := true, recurses := true, apart := false }
def FnErrorEqualsIsIdentitySaid : Prop := fnErrorEqualsIsIdentityRow.holds Efog.pinned (OpenSpec.ofChange fnErrorEqualsIsIdentitySpec)

/-- ITS FALSE NEIGHBOUR: 'it returns false'. Refute it at one input. -/
def fnErrorEqualsIsIdentityWrong : ChangeSpec := { name := "fnErrorEqualsIsIdentity", fn := fun _ => fun
  | [d1, d2] => { results := [.lit (.bool false)], args := [d1, d2] }
  | _ => none }
def FnErrorEqualsIsIdentityWrongFalsely : Prop := fnErrorEqualsIsIdentityRow.holds Efog.pinned (OpenSpec.ofChange fnErrorEqualsIsIdentityWrong)

/-- 'zzlaws_root_b1.FnErrorEqualsRefusesOtherTypes': WHATEVER THE INPUT: true; the input reads as it did. -/
def fnErrorEqualsRefusesOtherTypesSpec : ChangeSpec := { name := "fnErrorEqualsRefusesOtherTypes", fn := fun _ => fun
  | [d1, d2, d3] => { results := [.lit (.bool true)], args := [d1, d2, d3] }
  | _ => none }
def fnErrorEqualsRefusesOtherTypesRow : OpenClaim := { program := "yoefow", sum := "afe0aa9d576259bd44ad22417c415f733922387e72ab1f9298b2e8bc3854da41", func := "github.com/d5/tengo/v2/zzlaws_root_b1.FnErrorEqualsRefusesOtherTypes", spec := "fnErrorEqualsRefusesOtherTypes", apart := false }
def FnErrorEqualsRefusesOtherTypesSaid : Prop := fnErrorEqualsRefusesOtherTypesRow.holds Efog.pinned (OpenSpec.ofChange fnErrorEqualsRefusesOtherTypesSpec)

/-- ITS FALSE NEIGHBOUR: 'it returns false'. Refute it at one input. -/
def fnErrorEqualsRefusesOtherTypesWrong : ChangeSpec := { name := "fnErrorEqualsRefusesOtherTypes", fn := fun _ => fun
  | [d1, d2, d3] => { results := [.lit (.bool false)], args := [d1, d2, d3] }
  | _ => none }
def FnErrorEqualsRefusesOtherTypesWrongFalsely : Prop := fnErrorEqualsRefusesOtherTypesRow.holds Efog.pinned (OpenSpec.ofChange fnErrorEqualsRefusesOtherTypesWrong)

end Rows
end Go.Proofs.Yoefow
