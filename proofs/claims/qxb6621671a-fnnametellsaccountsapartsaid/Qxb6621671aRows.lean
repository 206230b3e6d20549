/-
  No cell of these rows narrows 'for every input' (looked for: loops, veiled, ifaces, maps, wideKeys, modest, calm, conditions, laid).
  DERIVED. THE GIVEN ROWS OF THIS SEAT. 3 by the template 'for every input the law returns true; each argument reads behind the call as it read before'; 0 by the template 'total and deterministic' (their statements: Qxb6621671aTotals.lean).
  GIVEN WITH THE SEED: the statements are not yours to turn. If you find one false, say at which input.
  Laid BY PROGRAM, IN A SANDBOX (cutbox-rows.mjs): the forced cells as the released guide's own fill.sh prints them over the translation 9e7c629e2b036ebe… (all of the seat's roots in one cut). By AI agents, Wed Nov 11 2026. No macro, syntax, notation, axiom, sorry.
-/
import Derived.Test.Qxb6621671aChecked
import GoSem.Claim
import GoSem.ClaimJoined
import GoSem.ClaimMapViews
import Derived.JoinedTies
import Derived.KernelRfl
namespace Go.Proofs.Qxb6621671a
/- THE CELL 'sum', in the pinned program and in every row, IS THE sha256 OF THE DUMP (.gsa) THAT Qxb6621671aProg.lean LOADS. Nothing in Lean hashes anything: it is a label: what it is worth is what the hold of that sum in a sandbox is worth. -/
noncomputable def Try.pinned : Pinned := { name := "qxb6621671a", sum := "9e7c629e2b036ebe79d30d85afbe7546e4a00f6caa2ae0e9211afdcba8d3915c", checked := Try.checked }
namespace Rows
def none {H : Type} : Left H := { results := [], args := [] }

/-- 'zzlaws_internal_figures_b1.FnAppendNameIsBufThenName': WHATEVER THE INPUT: true; the input reads as it did. -/
def fnAppendNameIsBufThenNameSpec : ChangeSpec := { name := "fnAppendNameIsBufThenName", fn := fun _ => fun
  | [d1, d2, d3, d4] => { results := [.lit (.bool true)], args := [d1, d2, d3, d4] }
  | _ => none }
def fnAppendNameIsBufThenNameRow : OpenClaim := { program := "qxb6621671a", sum := "9e7c629e2b036ebe79d30d85afbe7546e4a00f6caa2ae0e9211afdcba8d3915c", func := "example.com/tierline/tierline/zzlaws_internal_figures_b1.FnAppendNameIsBufThenName", spec := "fnAppendNameIsBufThenName", apart := false }
def FnAppendNameIsBufThenNameSaid : Prop := fnAppendNameIsBufThenNameRow.holds Try.pinned (OpenSpec.ofChange fnAppendNameIsBufThenNameSpec)

/-- ITS FALSE NEIGHBOUR: 'it returns false'. Refute it at one input. -/
def fnAppendNameIsBufThenNameWrong : ChangeSpec := { name := "fnAppendNameIsBufThenName", fn := fun _ => fun
  | [d1, d2, d3, d4] => { results := [.lit (.bool false)], args := [d1, d2, d3, d4] }
  | _ => none }
def FnAppendNameIsBufThenNameWrongFalsely : Prop := fnAppendNameIsBufThenNameRow.holds Try.pinned (OpenSpec.ofChange fnAppendNameIsBufThenNameWrong)

/-- 'zzlaws_internal_figures_b1.FnNameCutsAtAnyPlace': WHATEVER THE INPUT: true; the input reads as it did. -/
def fnNameCutsAtAnyPlaceSpec : ChangeSpec := { name := "fnNameCutsAtAnyPlace", fn := fun _ => fun
  | [d1, d2, d3, d4, d5] => { results := [.lit (.bool true)], args := [d1, d2, d3, d4, d5] }
  | _ => none }
def fnNameCutsAtAnyPlaceRow : OpenClaim := { program := "qxb6621671a", sum := "9e7c629e2b036ebe79d30d85afbe7546e4a00f6caa2ae0e9211afdcba8d3915c", func := "example.com/tierline/tierline/zzlaws_internal_figures_b1.FnNameCutsAtAnyPlace", spec := "fnNameCutsAtAnyPlace", apart := false }
def FnNameCutsAtAnyPlaceSaid : Prop := fnNameCutsAtAnyPlaceRow.holds Try.pinned (OpenSpec.ofChange fnNameCutsAtAnyPlaceSpec)

/-- ITS FALSE NEIGHBOUR: 'it returns false'. Refute it at one input. -/
def fnNameCutsAtAnyPlaceWrong : ChangeSpec := { name := "fnNameCutsAtAnyPlace", fn := fun _ => fun
  | [d1, d2, d3, d4, d5] => { results := [.lit (.bool false)], args := [d1, d2, d3, d4, d5] }
  | _ => none }
def FnNameCutsAtAnyPlaceWrongFalsely : Prop := fnNameCutsAtAnyPlaceRow.holds Try.pinned (OpenSpec.ofChange fnNameCutsAtAnyPlaceWrong)

/-- 'zzlaws_internal_figures_b1.FnNameTellsAccountsApart': WHATEVER THE INPUT: true; the input reads as it did. -/
def fnNameTellsAccountsApartSpec : ChangeSpec := { name := "fnNameTellsAccountsApart", fn := fun _ => fun
  | [d1, d2, d3, d4, d5, d6] => { results := [.lit (.bool true)], args := [d1, d2, d3, d4, d5, d6] }
  | _ => none }
def fnNameTellsAccountsApartRow : OpenClaim := { program := "qxb6621671a", sum := "9e7c629e2b036ebe79d30d85afbe7546e4a00f6caa2ae0e9211afdcba8d3915c", func := "example.com/tierline/tierline/zzlaws_internal_figures_b1.FnNameTellsAccountsApart", spec := "fnNameTellsAccountsApart", apart := false }
def FnNameTellsAccountsApartSaid : Prop := fnNameTellsAccountsApartRow.holds Try.pinned (OpenSpec.ofChange fnNameTellsAccountsApartSpec)

/-- ITS FALSE NEIGHBOUR: 'it returns false'. Refute it at one input. -/
def fnNameTellsAccountsApartWrong : ChangeSpec := { name := "fnNameTellsAccountsApart", fn := fun _ => fun
  | [d1, d2, d3, d4, d5, d6] => { results := [.lit (.bool false)], args := [d1, d2, d3, d4, d5, d6] }
  | _ => none }
def FnNameTellsAccountsApartWrongFalsely : Prop := fnNameTellsAccountsApartRow.holds Try.pinned (OpenSpec.ofChange fnNameTellsAccountsApartWrong)

end Rows
end Go.Proofs.Qxb6621671a
