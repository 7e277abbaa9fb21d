/-
  No cell of these rows narrows 'for every input' (looked for: loops, veiled, ifaces, maps, wideKeys, modest, calm, conditions, laid).
  DERIVED. THE GIVEN ROWS OF THIS SEAT. 1 by the template 'for every input the law returns true; each argument reads behind the call as it read before'; 0 by the template 'total and deterministic' (their statements: YoebtwTotals.lean).
  GIVEN WITH THE SEED: the statements are not yours to turn. If you find one false, say at which input.
  Laid BY PROGRAM, IN A SANDBOX (cutbox-rows.mjs): the forced cells as the released guide's own fill.sh prints them over the translation 19cd87e16a64679d… (all of the seat's roots in one cut). By AI agents, Wed Nov 11 2026. No macro, syntax, notation, axiom, sorry.
-/
import Derived.Test.YoebtwChecked
import GoSem.Claim
import GoSem.ClaimJoined
import GoSem.ClaimMapViews
import Derived.JoinedTies
import Derived.KernelRfl
namespace Go.Proofs.Yoebtw
/- THE CELL 'sum', in the pinned program and in every row, IS THE sha256 OF THE DUMP (.gsa) THAT YoebtwProg.lean LOADS. Nothing in Lean hashes anything: it is a label: what it is worth is what the hold of that sum in a sandbox is worth. -/
noncomputable def Ebtg.pinned : Pinned := { name := "yoebtw", sum := "19cd87e16a64679de137eac7fb77af4f8da2b4ddd0b7f542cf745e9fdfde88fc", checked := Ebtg.checked }
namespace Rows
def none {H : Type} : Left H := { results := [], args := [] }

/-- 'zzlaws_root_b2.FnFloatCopyIndependent': WHATEVER THE INPUT: true; the input reads as it did. -/
def fnFloatCopyIndependentSpec : ChangeSpec := { name := "fnFloatCopyIndependent", fn := fun _ => fun
  | [d1, d2] => { results := [.lit (.bool true)], args := [d1, d2] }
  | _ => none }
def fnFloatCopyIndependentRow : OpenClaim := { program := "yoebtw", sum := "19cd87e16a64679de137eac7fb77af4f8da2b4ddd0b7f542cf745e9fdfde88fc", func := "github.com/d5/tengo/v2/zzlaws_root_b2.FnFloatCopyIndependent", spec := "fnFloatCopyIndependent", unfollowed := true, recurses := true, apart := false }
def FnFloatCopyIndependentSaid : Prop := fnFloatCopyIndependentRow.holds Ebtg.pinned (OpenSpec.ofChange fnFloatCopyIndependentSpec)

/-- ITS FALSE NEIGHBOUR: 'it returns false'. Refute it at one input. -/
def fnFloatCopyIndependentWrong : ChangeSpec := { name := "fnFloatCopyIndependent", fn := fun _ => fun
  | [d1, d2] => { results := [.lit (.bool false)], args := [d1, d2] }
  | _ => none }
def FnFloatCopyIndependentWrongFalsely : Prop := fnFloatCopyIndependentRow.holds Ebtg.pinned (OpenSpec.ofChange fnFloatCopyIndependentWrong)

end Rows
end Go.Proofs.Yoebtw
