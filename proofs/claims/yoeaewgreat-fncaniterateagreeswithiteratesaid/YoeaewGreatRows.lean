/-
  No cell of these rows narrows 'for every input' (looked for: loops, veiled, ifaces, maps, wideKeys, modest, calm, conditions, laid).
  DERIVED. THE GIVEN ROWS OF THIS SEAT. 1 by the template 'for every input the law returns true; each argument reads behind the call as it read before'; 0 by the template 'total and deterministic' (their statements: YoeaewGreatTotals.lean).
  GIVEN WITH THE SEED: the statements are not yours to turn. If you find one false, say at which input.
  Laid BY PROGRAM, IN A SANDBOX (cutbox-rows.mjs): the forced cells as the released guide's own fill.sh prints them over the translation 2fa394b5e5b1b3c1… (all of the seat's roots in one cut). By AI agents, Wed Nov 11 2026. No macro, syntax, notation, axiom, sorry.
-/
import Derived.Test.YoeaewGreatChecked
import GoSem.Claim
import GoSem.ClaimJoined
import GoSem.ClaimMapViews
import Derived.JoinedTies
import Derived.KernelRfl
namespace Go.Proofs.YoeaewGreat
/- THE CELL 'sum', in the pinned program and in every row, IS THE sha256 OF THE DUMP (.gsa) THAT YoeaewGreatProg.lean LOADS. Nothing in Lean hashes anything: it is a label: what it is worth is what the hold of that sum in a sandbox is worth. -/
noncomputable def Eaeg.pinned : Pinned := { name := "yoeaewgreat", sum := "2fa394b5e5b1b3c122d3210ab242dbd52b85035b17547f8a872f8c99e5b18bc7", checked := Eaeg.checked }
namespace Rows
def none {H : Type} : Left H := { results := [], args := [] }

/-- 'zzlaws_root_b3.FnCanIterateAgreesWithIterate': WHATEVER THE INPUT: true; the input reads as it did. -/
def fnCanIterateAgreesWithIterateSpec : ChangeSpec := { name := "fnCanIterateAgreesWithIterate", fn := fun _ => fun
  | [d1, d2, d3] => { results := [.lit (.bool true)], args := [d1, d2, d3] }
  | _ => none }
def fnCanIterateAgreesWithIterateRow : OpenClaim := { program := "yoeaewgreat", sum := "2fa394b5e5b1b3c122d3210ab242dbd52b85035b17547f8a872f8c99e5b18bc7", func := "github.com/d5/tengo/v2/zzlaws_root_b3.FnCanIterateAgreesWithIterate", spec := "fnCanIterateAgreesWithIterate", apart := false }
def FnCanIterateAgreesWithIterateSaid : Prop := fnCanIterateAgreesWithIterateRow.holds Eaeg.pinned (OpenSpec.ofChange fnCanIterateAgreesWithIterateSpec)

/-- ITS FALSE NEIGHBOUR: 'it returns false'. Refute it at one input. -/
def fnCanIterateAgreesWithIterateWrong : ChangeSpec := { name := "fnCanIterateAgreesWithIterate", fn := fun _ => fun
  | [d1, d2, d3] => { results := [.lit (.bool false)], args := [d1, d2, d3] }
  | _ => none }
def FnCanIterateAgreesWithIterateWrongFalsely : Prop := fnCanIterateAgreesWithIterateRow.holds Eaeg.pinned (OpenSpec.ofChange fnCanIterateAgreesWithIterateWrong)

end Rows
end Go.Proofs.YoeaewGreat
