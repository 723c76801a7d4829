/-
  No cell of these rows narrows 'for every input' (looked for: loops, veiled, ifaces, maps, wideKeys, modest, calm, conditions, laid).
  DERIVED. THE GIVEN ROWS OF THIS SEAT. 2 by the template 'for every input the law returns true; each argument reads behind the call as it read before'; 0 by the template 'total and deterministic' (their statements: Qxb6601600aTotals.lean).
  GIVEN WITH THE SEED: the statements are not yours to turn. If you find one false, say at which input.
  Laid BY PROGRAM, IN A SANDBOX (cutbox-rows.mjs): the forced cells as the released guide's own fill.sh prints them over the translation d37dc22c6baeef5d… (all of the seat's roots in one cut). By AI agents, Wed Nov 11 2026. No macro, syntax, notation, axiom, sorry.
-/
import Derived.Test.Qxb6601600aChecked
import GoSem.Claim
import GoSem.ClaimJoined
import GoSem.ClaimMapViews
import Derived.JoinedTies
import Derived.KernelRfl
namespace Go.Proofs.Qxb6601600a
/- THE CELL 'sum', in the pinned program and in every row, IS THE sha256 OF THE DUMP (.gsa) THAT Qxb6601600aProg.lean LOADS. Nothing in Lean hashes anything: it is a label: what it is worth is what the hold of that sum in a sandbox is worth. -/
noncomputable def Try.pinned : Pinned := { name := "qxb6601600a", sum := "d37dc22c6baeef5dfc77c58287aca908fdea605d95670c974d4a6bd03f579b5b", checked := Try.checked }
namespace Rows
def none {H : Type} : Left H := { results := [], args := [] }

/-- 'zzlaws_internal_transport_b1.FnCarriageBytesBounds': WHATEVER THE INPUT: true; the input reads as it did. -/
def fnCarriageBytesBoundsSpec : ChangeSpec := { name := "fnCarriageBytesBounds", fn := fun _ => fun
  | [d1, d2] => { results := [.lit (.bool true)], args := [d1, d2] }
  | _ => none }
def fnCarriageBytesBoundsRow : OpenClaim := { program := "qxb6601600a", sum := "d37dc22c6baeef5dfc77c58287aca908fdea605d95670c974d4a6bd03f579b5b", func := "example.com/cutline/cutline/zzlaws_internal_transport_b1.FnCarriageBytesBounds", spec := "fnCarriageBytesBounds", apart := false }
def FnCarriageBytesBoundsSaid : Prop := fnCarriageBytesBoundsRow.holds Try.pinned (OpenSpec.ofChange fnCarriageBytesBoundsSpec)

/-- ITS FALSE NEIGHBOUR: 'it returns false'. Refute it at one input. -/
def fnCarriageBytesBoundsWrong : ChangeSpec := { name := "fnCarriageBytesBounds", fn := fun _ => fun
  | [d1, d2] => { results := [.lit (.bool false)], args := [d1, d2] }
  | _ => none }
def FnCarriageBytesBoundsWrongFalsely : Prop := fnCarriageBytesBoundsRow.holds Try.pinned (OpenSpec.ofChange fnCarriageBytesBoundsWrong)

/-- 'zzlaws_internal_transport_b1.FnCarriageMonotone': WHATEVER THE INPUT: true; the input reads as it did. -/
def fnCarriageMonotoneSpec : ChangeSpec := { name := "fnCarriageMonotone", fn := fun _ => fun
  | [d1, d2, d3, d4] => { results := [.lit (.bool true)], args := [d1, d2, d3, d4] }
  | _ => none }
def fnCarriageMonotoneRow : OpenClaim := { program := "qxb6601600a", sum := "d37dc22c6baeef5dfc77c58287aca908fdea605d95670c974d4a6bd03f579b5b", func := "example.com/cutline/cutline/zzlaws_internal_transport_b1.FnCarriageMonotone", spec := "fnCarriageMonotone", apart := false }
def FnCarriageMonotoneSaid : Prop := fnCarriageMonotoneRow.holds Try.pinned (OpenSpec.ofChange fnCarriageMonotoneSpec)

/-- ITS FALSE NEIGHBOUR: 'it returns false'. Refute it at one input. -/
def fnCarriageMonotoneWrong : ChangeSpec := { name := "fnCarriageMonotone", fn := fun _ => fun
  | [d1, d2, d3, d4] => { results := [.lit (.bool false)], args := [d1, d2, d3, d4] }
  | _ => none }
def FnCarriageMonotoneWrongFalsely : Prop := fnCarriageMonotoneRow.holds Try.pinned (OpenSpec.ofChange fnCarriageMonotoneWrong)

end Rows
end Go.Proofs.Qxb6601600a
