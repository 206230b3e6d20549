/-
  No cell of these rows narrows 'for every input' (looked for: loops, veiled, ifaces, maps, wideKeys, modest, calm, conditions, laid).
  DERIVED. THE GIVEN ROWS OF THIS SEAT. 2 by the template 'for every input the law returns true; each argument reads behind the call as it read before'; 0 by the template 'total and deterministic' (their statements: Qxb6617271aTotals.lean).
  GIVEN WITH THE SEED: the statements are not yours to turn. If you find one false, say at which input.
  Laid BY PROGRAM, IN A SANDBOX (cutbox-rows.mjs): the forced cells as the released guide's own fill.sh prints them over the translation d14129954099a2d8… (all of the seat's roots in one cut). By AI agents, Wed Nov 11 2026. No macro, syntax, notation, axiom, sorry.
-/
import Derived.Test.Qxb6617271aChecked
import GoSem.Claim
import GoSem.ClaimJoined
import GoSem.ClaimMapViews
import Derived.JoinedTies
import Derived.KernelRfl
namespace Go.Proofs.Qxb6617271a
/- THE CELL 'sum', in the pinned program and in every row, IS THE sha256 OF THE DUMP (.gsa) THAT Qxb6617271aProg.lean LOADS. Nothing in Lean hashes anything: it is a label: what it is worth is what the hold of that sum in a sandbox is worth. -/
noncomputable def Try.pinned : Pinned := { name := "qxb6617271a", sum := "d14129954099a2d824855626cc39771d1368e910c4a867615a487cdf415d6630", checked := Try.checked }
namespace Rows
def none {H : Type} : Left H := { results := [], args := [] }

/-- 'zzlaws_root_b1.FnLowerASCIICasePair': WHATEVER THE INPUT: true; the input reads as it did. -/
def fnLowerASCIICasePairSpec : ChangeSpec := { name := "fnLowerASCIICasePair", fn := fun _ => fun
  | [d] => { results := [.lit (.bool true)], args := [d] }
  | _ => none }
def fnLowerASCIICasePairRow : OpenClaim := { program := "qxb6617271a", sum := "d14129954099a2d824855626cc39771d1368e910c4a867615a487cdf415d6630", func := "example.com/sealwright/sealwright/zzlaws_root_b1.FnLowerASCIICasePair", spec := "fnLowerASCIICasePair", apart := false }
def FnLowerASCIICasePairSaid : Prop := fnLowerASCIICasePairRow.holds Try.pinned (OpenSpec.ofChange fnLowerASCIICasePairSpec)

/-- ITS FALSE NEIGHBOUR: 'it returns false'. Refute it at one input. -/
def fnLowerASCIICasePairWrong : ChangeSpec := { name := "fnLowerASCIICasePair", fn := fun _ => fun
  | [d] => { results := [.lit (.bool false)], args := [d] }
  | _ => none }
def FnLowerASCIICasePairWrongFalsely : Prop := fnLowerASCIICasePairRow.holds Try.pinned (OpenSpec.ofChange fnLowerASCIICasePairWrong)

/-- 'zzlaws_root_b1.FnLowerASCIIPreimages': WHATEVER THE INPUT: true; the input reads as it did. -/
def fnLowerASCIIPreimagesSpec : ChangeSpec := { name := "fnLowerASCIIPreimages", fn := fun _ => fun
  | [d] => { results := [.lit (.bool true)], args := [d] }
  | _ => none }
def fnLowerASCIIPreimagesRow : OpenClaim := { program := "qxb6617271a", sum := "d14129954099a2d824855626cc39771d1368e910c4a867615a487cdf415d6630", func := "example.com/sealwright/sealwright/zzlaws_root_b1.FnLowerASCIIPreimages", spec := "fnLowerASCIIPreimages", apart := false }
def FnLowerASCIIPreimagesSaid : Prop := fnLowerASCIIPreimagesRow.holds Try.pinned (OpenSpec.ofChange fnLowerASCIIPreimagesSpec)

/-- ITS FALSE NEIGHBOUR: 'it returns false'. Refute it at one input. -/
def fnLowerASCIIPreimagesWrong : ChangeSpec := { name := "fnLowerASCIIPreimages", fn := fun _ => fun
  | [d] => { results := [.lit (.bool false)], args := [d] }
  | _ => none }
def FnLowerASCIIPreimagesWrongFalsely : Prop := fnLowerASCIIPreimagesRow.holds Try.pinned (OpenSpec.ofChange fnLowerASCIIPreimagesWrong)

end Rows
end Go.Proofs.Qxb6617271a
