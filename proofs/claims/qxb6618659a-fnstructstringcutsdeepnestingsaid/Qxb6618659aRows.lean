/-
  No cell of these rows narrows 'for every input' (looked for: loops, veiled, ifaces, maps, wideKeys, modest, calm, conditions, laid).
  DERIVED. THE GIVEN ROWS OF THIS SEAT. 2 by the template 'for every input the law returns true; each argument reads behind the call as it read before'; 0 by the template 'total and deterministic' (their statements: Qxb6618659aTotals.lean).
  GIVEN WITH THE SEED: the statements are not yours to turn. If you find one false, say at which input.
  Laid BY PROGRAM, IN A SANDBOX (cutbox-rows.mjs): the forced cells as the released guide's own fill.sh prints them over the translation 7d2fe275b4c5efcf… (all of the seat's roots in one cut). By AI agents, Wed Nov 11 2026. No macro, syntax, notation, axiom, sorry.
-/
import Derived.Test.Qxb6618659aChecked
import GoSem.Claim
import GoSem.ClaimJoined
import GoSem.ClaimMapViews
import Derived.JoinedTies
import Derived.KernelRfl
namespace Go.Proofs.Qxb6618659a
/- THE CELL 'sum', in the pinned program and in every row, IS THE sha256 OF THE DUMP (.gsa) THAT Qxb6618659aProg.lean LOADS. Nothing in Lean hashes anything: it is a label: what it is worth is what the hold of that sum in a sandbox is worth. -/
noncomputable def Try.pinned : Pinned := { name := "qxb6618659a", sum := "7d2fe275b4c5efcf654c0acf92961b0f48ea784a592ca5a3efad92fe8ff4d49a", checked := Try.checked }
namespace Rows
def none {H : Type} : Left H := { results := [], args := [] }

/-- 'zzlaws_internal_check_b1.FnStructStringShowsArgsAndNests': WHATEVER THE INPUT: true; the input reads as it did. -/
def fnStructStringShowsArgsAndNestsSpec : ChangeSpec := { name := "fnStructStringShowsArgsAndNests", fn := fun _ => fun
  | [d1, d2, d3] => { results := [.lit (.bool true)], args := [d1, d2, d3] }
  | _ => none }
def fnStructStringShowsArgsAndNestsRow : OpenClaim := { program := "qxb6618659a", sum := "7d2fe275b4c5efcf654c0acf92961b0f48ea784a592ca5a3efad92fe8ff4d49a", func := "example.com/mortise/mortise/zzlaws_internal_check_b1.FnStructStringShowsArgsAndNests", spec := "fnStructStringShowsArgsAndNests", inPlace := ["internal/abi.NoEscape"], unfollowed := true, recurses := true, apart := false }
def FnStructStringShowsArgsAndNestsSaid : Prop := fnStructStringShowsArgsAndNestsRow.holds Try.pinned (OpenSpec.ofChange fnStructStringShowsArgsAndNestsSpec)

/-- ITS FALSE NEIGHBOUR: 'it returns false'. Refute it at one input. -/
def fnStructStringShowsArgsAndNestsWrong : ChangeSpec := { name := "fnStructStringShowsArgsAndNests", fn := fun _ => fun
  | [d1, d2, d3] => { results := [.lit (.bool false)], args := [d1, d2, d3] }
  | _ => none }
def FnStructStringShowsArgsAndNestsWrongFalsely : Prop := fnStructStringShowsArgsAndNestsRow.holds Try.pinned (OpenSpec.ofChange fnStructStringShowsArgsAndNestsWrong)

/-- 'zzlaws_internal_check_b1.FnStructStringCutsDeepNesting': WHATEVER THE INPUT: true; the input reads as it did. -/
def fnStructStringCutsDeepNestingSpec : ChangeSpec := { name := "fnStructStringCutsDeepNesting", fn := fun _ => fun
  | [d] => { results := [.lit (.bool true)], args := [d] }
  | _ => none }
def fnStructStringCutsDeepNestingRow : OpenClaim := { program := "qxb6618659a", sum := "7d2fe275b4c5efcf654c0acf92961b0f48ea784a592ca5a3efad92fe8ff4d49a", func := "example.com/mortise/mortise/zzlaws_internal_check_b1.FnStructStringCutsDeepNesting", spec := "fnStructStringCutsDeepNesting", inPlace := ["internal/abi.NoEscape"], unfollowed := true, recurses := true, apart := false }
def FnStructStringCutsDeepNestingSaid : Prop := fnStructStringCutsDeepNestingRow.holds Try.pinned (OpenSpec.ofChange fnStructStringCutsDeepNestingSpec)

/-- ITS FALSE NEIGHBOUR: 'it returns false'. Refute it at one input. -/
def fnStructStringCutsDeepNestingWrong : ChangeSpec := { name := "fnStructStringCutsDeepNesting", fn := fun _ => fun
  | [d] => { results := [.lit (.bool false)], args := [d] }
  | _ => none }
def FnStructStringCutsDeepNestingWrongFalsely : Prop := fnStructStringCutsDeepNestingRow.holds Try.pinned (OpenSpec.ofChange fnStructStringCutsDeepNestingWrong)

end Rows
end Go.Proofs.Qxb6618659a
