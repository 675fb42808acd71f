/-
  No cell of these rows narrows 'for every input' (looked for: loops, veiled, ifaces, maps, wideKeys, modest, calm, conditions, laid).
  DERIVED. THE GIVEN ROWS OF THIS SEAT. 1 by the template 'for every input the law returns true; each argument reads behind the call as it read before'; 0 by the template 'total and deterministic' (their statements: Qxb6001661aTotals.lean).
  GIVEN WITH THE SEED: the statements are not yours to turn. If you find one false, say at which input.
  Laid BY PROGRAM, IN A SANDBOX (cutbox-rows.mjs): the forced cells as the released guide's own fill.sh prints them over the translation ddecf19385aed577… (all of the seat's roots in one cut). By AI agents, Wed Nov 11 2026. No macro, syntax, notation, axiom, sorry.
-/
import Derived.Test.Qxb6001661aChecked
import GoSem.Claim
import GoSem.ClaimJoined
import GoSem.ClaimMapViews
import Derived.JoinedTies
import Derived.KernelRfl
namespace Go.Proofs.Qxb6001661a
/- THE CELL 'sum', in the pinned program and in every row, IS THE sha256 OF THE DUMP (.gsa) THAT Qxb6001661aProg.lean LOADS. Nothing in Lean hashes anything: it is a label: what it is worth is what the hold of that sum in a sandbox is worth. -/
noncomputable def Try.pinned : Pinned := { name := "qxb6001661a", sum := "ddecf19385aed5772c3d9367269bef317d9d522aa65afa351bb0c5826feed236", checked := Try.checked }
namespace Rows
def none {H : Type} : Left H := { results := [], args := [] }

/-- 'zzlaws_pkg_kube_g1.FnDNSLabelIsLowerCaseLabelValue': WHATEVER THE INPUT: true; the input reads as it did. -/
def fnDNSLabelIsLowerCaseLabelValueSpec : ChangeSpec := { name := "fnDNSLabelIsLowerCaseLabelValue", fn := fun _ => fun
  | [d] => { results := [.lit (.bool true)], args := [d] }
  | _ => none }
def fnDNSLabelIsLowerCaseLabelValueRow : OpenClaim := { program := "qxb6001661a", sum := "ddecf19385aed5772c3d9367269bef317d9d522aa65afa351bb0c5826feed236", func := "example.com/chainwright/chainwright/zzlaws_pkg_kube_g1.FnDNSLabelIsLowerCaseLabelValue", spec := "fnDNSLabelIsLowerCaseLabelValue", apart := false }
def FnDNSLabelIsLowerCaseLabelValueSaid : Prop := fnDNSLabelIsLowerCaseLabelValueRow.holds Try.pinned (OpenSpec.ofChange fnDNSLabelIsLowerCaseLabelValueSpec)

/-- ITS FALSE NEIGHBOUR: 'it returns false'. Refute it at one input. -/
def fnDNSLabelIsLowerCaseLabelValueWrong : ChangeSpec := { name := "fnDNSLabelIsLowerCaseLabelValue", fn := fun _ => fun
  | [d] => { results := [.lit (.bool false)], args := [d] }
  | _ => none }
def FnDNSLabelIsLowerCaseLabelValueWrongFalsely : Prop := fnDNSLabelIsLowerCaseLabelValueRow.holds Try.pinned (OpenSpec.ofChange fnDNSLabelIsLowerCaseLabelValueWrong)

end Rows
end Go.Proofs.Qxb6001661a
