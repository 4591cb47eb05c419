/-
  No cell of these rows narrows 'for every input' (looked for: loops, veiled, ifaces, maps, wideKeys, modest, calm, conditions, laid).
  DERIVED. THE GIVEN ROWS OF THIS SEAT. 2 by the template 'for every input the law returns true; each argument reads behind the call as it read before'; 0 by the template 'total and deterministic' (their statements: YbulkatsiTotals.lean).
  GIVEN WITH THE SEED: the statements are not yours to turn. If you find one false, say at which input.
  Laid BY PROGRAM, IN A SANDBOX (cutbox-rows.mjs): the forced cells as the released guide's own fill.sh prints them over the translation 5d6324f812d0b64b… (all of the seat's roots in one cut). By AI agents, Wed Nov 11 2026. No macro, syntax, notation, axiom, sorry.
-/
import Derived.Test.YbulkatsiChecked
import GoSem.Claim
import GoSem.ClaimJoined
import GoSem.ClaimMapViews
import Derived.JoinedTies
import Derived.KernelRfl
namespace Go.Proofs.Ybulkatsi
/- THE CELL 'sum', in the pinned program and in every row, IS THE sha256 OF THE DUMP (.gsa) THAT YbulkatsiProg.lean LOADS. Nothing in Lean hashes anything: it is a label: what it is worth is what the hold of that sum in a sandbox is worth. -/
noncomputable def Yba.pinned : Pinned := { name := "ybulkatsi", sum := "5d6324f812d0b64b81c783f0a83b5db4ad4912999df905522431f2524efcc82f", checked := Yba.checked }
namespace Rows
def none {H : Type} : Left H := { results := [], args := [] }

/-- 'registry.LawS2257BExact': WHATEVER THE INPUT: true; the input reads as it did. -/
def lawS2257BExactSpec : ChangeSpec := { name := "lawS2257BExact", fn := fun _ => fun
  | [d1, d2] => { results := [.lit (.bool true)], args := [d1, d2] }
  | _ => none }
def lawS2257BExactRow : OpenClaim := { program := "ybulkatsi", sum := "5d6324f812d0b64b81c783f0a83b5db4ad4912999df905522431f2524efcc82f", func := "example.com/slipway/slipway/internal/registry.LawS2257BExact", spec := "lawS2257BExact", apart := false }
def LawS2257BExactSaid : Prop := lawS2257BExactRow.holds Yba.pinned (OpenSpec.ofChange lawS2257BExactSpec)

/-- ITS FALSE NEIGHBOUR: 'it returns false'. Refute it at one input. -/
def lawS2257BExactWrong : ChangeSpec := { name := "lawS2257BExact", fn := fun _ => fun
  | [d1, d2] => { results := [.lit (.bool false)], args := [d1, d2] }
  | _ => none }
def LawS2257BExactWrongFalsely : Prop := lawS2257BExactRow.holds Yba.pinned (OpenSpec.ofChange lawS2257BExactWrong)

/-- 'registry.LawS2257BOnlyHostAndScheme': WHATEVER THE INPUT: true; the input reads as it did. -/
def lawS2257BOnlyHostAndSchemeSpec : ChangeSpec := { name := "lawS2257BOnlyHostAndScheme", fn := fun _ => fun
  | [d1, d2, d3, d4, d5, d6, d7] => { results := [.lit (.bool true)], args := [d1, d2, d3, d4, d5, d6, d7] }
  | _ => none }
def lawS2257BOnlyHostAndSchemeRow : OpenClaim := { program := "ybulkatsi", sum := "5d6324f812d0b64b81c783f0a83b5db4ad4912999df905522431f2524efcc82f", func := "example.com/slipway/slipway/internal/registry.LawS2257BOnlyHostAndScheme", spec := "lawS2257BOnlyHostAndScheme", apart := false }
def LawS2257BOnlyHostAndSchemeSaid : Prop := lawS2257BOnlyHostAndSchemeRow.holds Yba.pinned (OpenSpec.ofChange lawS2257BOnlyHostAndSchemeSpec)

/-- ITS FALSE NEIGHBOUR: 'it returns false'. Refute it at one input. -/
def lawS2257BOnlyHostAndSchemeWrong : ChangeSpec := { name := "lawS2257BOnlyHostAndScheme", fn := fun _ => fun
  | [d1, d2, d3, d4, d5, d6, d7] => { results := [.lit (.bool false)], args := [d1, d2, d3, d4, d5, d6, d7] }
  | _ => none }
def LawS2257BOnlyHostAndSchemeWrongFalsely : Prop := lawS2257BOnlyHostAndSchemeRow.holds Yba.pinned (OpenSpec.ofChange lawS2257BOnlyHostAndSchemeWrong)

end Rows
end Go.Proofs.Ybulkatsi
