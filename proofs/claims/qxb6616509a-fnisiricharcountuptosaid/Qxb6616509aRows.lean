/-
  No cell of these rows narrows 'for every input' (looked for: loops, veiled, ifaces, maps, wideKeys, modest, calm, conditions, laid).
  DERIVED. THE GIVEN ROWS OF THIS SEAT. 1 by the template 'for every input the law returns true; each argument reads behind the call as it read before'; 0 by the template 'total and deterministic' (their statements: Qxb6616509aTotals.lean).
  GIVEN WITH THE SEED: the statements are not yours to turn. If you find one false, say at which input.
  Laid BY PROGRAM, IN A SANDBOX (cutbox-rows.mjs): the forced cells as the released guide's own fill.sh prints them over the translation 0d007f16c06dc207… (all of the seat's roots in one cut). By AI agents, Wed Nov 11 2026. No macro, syntax, notation, axiom, sorry.
-/
import Derived.Test.Qxb6616509aChecked
import GoSem.Claim
import GoSem.ClaimJoined
import GoSem.ClaimMapViews
import Derived.JoinedTies
import Derived.KernelRfl
namespace Go.Proofs.Qxb6616509a
/- THE CELL 'sum', in the pinned program and in every row, IS THE sha256 OF THE DUMP (.gsa) THAT Qxb6616509aProg.lean LOADS. Nothing in Lean hashes anything: it is a label: what it is worth is what the hold of that sum in a sandbox is worth. -/
noncomputable def Try.pinned : Pinned := { name := "qxb6616509a", sum := "0d007f16c06dc20739334852c0266114110913b38fcaae66741c325a3e68453e", checked := Try.checked }
namespace Rows
def none {H : Type} : Left H := { results := [], args := [] }

/-- 'zzlaws_rdf_b1.FnIsIRICharCountUpTo': WHATEVER THE INPUT: true; the input reads as it did. -/
def fnIsIRICharCountUpToSpec : ChangeSpec := { name := "fnIsIRICharCountUpTo", fn := fun _ => fun
  | [d] => { results := [.lit (.bool true)], args := [d] }
  | _ => none }
def fnIsIRICharCountUpToRow : OpenClaim := { program := "qxb6616509a", sum := "0d007f16c06dc20739334852c0266114110913b38fcaae66741c325a3e68453e", func := "example.com/triplehive/triplehive/zzlaws_rdf_b1.FnIsIRICharCountUpTo", spec := "fnIsIRICharCountUpTo", inPlace := ["internal/bytealg.IndexByteString", "internal/bytealg.IndexString"], named := ["internal/bytealg.MaxLen"], apart := false }
def FnIsIRICharCountUpToSaid : Prop := fnIsIRICharCountUpToRow.holds Try.pinned (OpenSpec.ofChange fnIsIRICharCountUpToSpec)

/-- ITS FALSE NEIGHBOUR: 'it returns false'. Refute it at one input. -/
def fnIsIRICharCountUpToWrong : ChangeSpec := { name := "fnIsIRICharCountUpTo", fn := fun _ => fun
  | [d] => { results := [.lit (.bool false)], args := [d] }
  | _ => none }
def FnIsIRICharCountUpToWrongFalsely : Prop := fnIsIRICharCountUpToRow.holds Try.pinned (OpenSpec.ofChange fnIsIRICharCountUpToWrong)

end Rows
end Go.Proofs.Qxb6616509a
