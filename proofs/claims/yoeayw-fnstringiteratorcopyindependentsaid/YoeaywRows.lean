/-
  No cell of these rows narrows 'for every input' (looked for: loops, veiled, ifaces, maps, wideKeys, modest, calm, conditions, laid).
  DERIVED. THE GIVEN ROWS OF THIS SEAT. 3 by the template 'for every input the law returns true; each argument reads behind the call as it read before'; 0 by the template 'total and deterministic' (their statements: YoeaywTotals.lean).
  GIVEN WITH THE SEED: the statements are not yours to turn. If you find one false, say at which input.
  Laid BY PROGRAM, IN A SANDBOX (cutbox-rows.mjs): the forced cells as the released guide's own fill.sh prints them over the translation 26db9d52f5595ff7… (all of the seat's roots in one cut). By AI agents, Wed Nov 11 2026. No macro, syntax, notation, axiom, sorry.
-/
import Derived.Test.YoeaywChecked
import GoSem.Claim
import GoSem.ClaimJoined
import GoSem.ClaimMapViews
import Derived.JoinedTies
import Derived.KernelRfl
namespace Go.Proofs.Yoeayw
/- THE CELL 'sum', in the pinned program and in every row, IS THE sha256 OF THE DUMP (.gsa) THAT YoeaywProg.lean LOADS. Nothing in Lean hashes anything: it is a label: what it is worth is what the hold of that sum in a sandbox is worth. -/
noncomputable def Eayg.pinned : Pinned := { name := "yoeayw", sum := "26db9d52f5595ff77031b940509d5c934fb84f77f2441dc5b100cfe424afa598", checked := Eayg.checked }
namespace Rows
def none {H : Type} : Left H := { results := [], args := [] }

/-- 'zzlaws_root_b2.FnStringIteratorWalkMatchesRunes': WHATEVER THE INPUT: true; the input reads as it did. -/
def fnStringIteratorWalkMatchesRunesSpec : ChangeSpec := { name := "fnStringIteratorWalkMatchesRunes", fn := fun _ => fun
  | [d] => { results := [.lit (.bool true)], args := [d] }
  | _ => none }
def fnStringIteratorWalkMatchesRunesRow : OpenClaim := { program := "yoeayw", sum := "26db9d52f5595ff77031b940509d5c934fb84f77f2441dc5b100cfe424afa598", func := "github.com/d5/tengo/v2/zzlaws_root_b2.FnStringIteratorWalkMatchesRunes", spec := "fnStringIteratorWalkMatchesRunes", apart := false }
def FnStringIteratorWalkMatchesRunesSaid : Prop := fnStringIteratorWalkMatchesRunesRow.holds Eayg.pinned (OpenSpec.ofChange fnStringIteratorWalkMatchesRunesSpec)

/-- ITS FALSE NEIGHBOUR: 'it returns false'. Refute it at one input. -/
def fnStringIteratorWalkMatchesRunesWrong : ChangeSpec := { name := "fnStringIteratorWalkMatchesRunes", fn := fun _ => fun
  | [d] => { results := [.lit (.bool false)], args := [d] }
  | _ => none }
def FnStringIteratorWalkMatchesRunesWrongFalsely : Prop := fnStringIteratorWalkMatchesRunesRow.holds Eayg.pinned (OpenSpec.ofChange fnStringIteratorWalkMatchesRunesWrong)

/-- 'zzlaws_root_b2.FnStringIteratorCopyIndependent': WHATEVER THE INPUT: true; the input reads as it did. -/
def fnStringIteratorCopyIndependentSpec : ChangeSpec := { name := "fnStringIteratorCopyIndependent", fn := fun _ => fun
  | [d1, d2] => { results := [.lit (.bool true)], args := [d1, d2] }
  | _ => none }
def fnStringIteratorCopyIndependentRow : OpenClaim := { program := "yoeayw", sum := "26db9d52f5595ff77031b940509d5c934fb84f77f2441dc5b100cfe424afa598", func := "github.com/d5/tengo/v2/zzlaws_root_b2.FnStringIteratorCopyIndependent", spec := "fnStringIteratorCopyIndependent", apart := false }
def FnStringIteratorCopyIndependentSaid : Prop := fnStringIteratorCopyIndependentRow.holds Eayg.pinned (OpenSpec.ofChange fnStringIteratorCopyIndependentSpec)

/-- ITS FALSE NEIGHBOUR: 'it returns false'. Refute it at one input. -/
def fnStringIteratorCopyIndependentWrong : ChangeSpec := { name := "fnStringIteratorCopyIndependent", fn := fun _ => fun
  | [d1, d2] => { results := [.lit (.bool false)], args := [d1, d2] }
  | _ => none }
def FnStringIteratorCopyIndependentWrongFalsely : Prop := fnStringIteratorCopyIndependentRow.holds Eayg.pinned (OpenSpec.ofChange fnStringIteratorCopyIndependentWrong)

/-- 'zzlaws_root_b2.FnStringIteratorKeyValueFreshAndStable': WHATEVER THE INPUT: true; the input reads as it did. -/
def fnStringIteratorKeyValueFreshAndStableSpec : ChangeSpec := { name := "fnStringIteratorKeyValueFreshAndStable", fn := fun _ => fun
  | [d] => { results := [.lit (.bool true)], args := [d] }
  | _ => none }
def fnStringIteratorKeyValueFreshAndStableRow : OpenClaim := { program := "yoeayw", sum := "26db9d52f5595ff77031b940509d5c934fb84f77f2441dc5b100cfe424afa598", func := "github.com/d5/tengo/v2/zzlaws_root_b2.FnStringIteratorKeyValueFreshAndStable", spec := "fnStringIteratorKeyValueFreshAndStable", apart := false }
def FnStringIteratorKeyValueFreshAndStableSaid : Prop := fnStringIteratorKeyValueFreshAndStableRow.holds Eayg.pinned (OpenSpec.ofChange fnStringIteratorKeyValueFreshAndStableSpec)

/-- ITS FALSE NEIGHBOUR: 'it returns false'. Refute it at one input. -/
def fnStringIteratorKeyValueFreshAndStableWrong : ChangeSpec := { name := "fnStringIteratorKeyValueFreshAndStable", fn := fun _ => fun
  | [d] => { results := [.lit (.bool false)], args := [d] }
  | _ => none }
def FnStringIteratorKeyValueFreshAndStableWrongFalsely : Prop := fnStringIteratorKeyValueFreshAndStableRow.holds Eayg.pinned (OpenSpec.ofChange fnStringIteratorKeyValueFreshAndStableWrong)

end Rows
end Go.Proofs.Yoeayw
