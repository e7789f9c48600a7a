/-
  No cell of these rows narrows 'for every input' (looked for: loops, veiled, ifaces, maps, wideKeys, modest, calm, conditions, laid).
  DERIVED. THE GIVEN ROWS OF THIS SEAT. 4 by the template 'for every input the law returns true; each argument reads behind the call as it read before'; 0 by the template 'total and deterministic' (their statements: Qxb6003649aModsTotals.lean).
  GIVEN WITH THE SEED: the statements are not yours to turn. If you find one false, say at which input.
  Laid BY PROGRAM, IN A SANDBOX (cutbox-rows.mjs): the forced cells as the released guide's own fill.sh prints them over the translation 30200f7a935a0fdb… (all of the seat's roots in one cut). By AI agents, Wed Nov 11 2026. No macro, syntax, notation, axiom, sorry.
-/
import Derived.Test.Qxb6003649aModsChecked
import GoSem.Claim
import GoSem.ClaimJoined
import GoSem.ClaimMapViews
import Derived.JoinedTies
import Derived.KernelRfl
namespace Go.Proofs.Qxb6003649aMods
/- THE CELL 'sum', in the pinned program and in every row, IS THE sha256 OF THE DUMP (.gsa) THAT Qxb6003649aModsProg.lean LOADS. Nothing in Lean hashes anything: it is a label: what it is worth is what the hold of that sum in a sandbox is worth. -/
noncomputable def Trym.pinned : Pinned := { name := "qxb6003649amods", sum := "30200f7a935a0fdbe5ac9ee92e0b35386cf28e0f2770f0a603608e988a407290", checked := Trym.checked }
namespace Rows
def none {H : Type} : Left H := { results := [], args := [] }

/-- 'zzlaws_root_b1.FnFirstAtOrAfterWrapping': WHATEVER THE INPUT: true; the input reads as it did. -/
def fnFirstAtOrAfterWrappingSpec : ChangeSpec := { name := "fnFirstAtOrAfterWrapping", fn := fun _ => fun
  | [d1, d2, d3, d4, d5, d6, d7] => { results := [.lit (.bool true)], args := [d1, d2, d3, d4, d5, d6, d7] }
  | _ => none }
def fnFirstAtOrAfterWrappingRow : OpenClaim := { program := "qxb6003649amods", sum := "30200f7a935a0fdbe5ac9ee92e0b35386cf28e0f2770f0a603608e988a407290", func := "example.com/steady-ring/steady-ring/zzlaws_root_b1.FnFirstAtOrAfterWrapping", spec := "fnFirstAtOrAfterWrapping", make := .lifted ["publicsums"], apart := false }
def FnFirstAtOrAfterWrappingSaid : Prop := fnFirstAtOrAfterWrappingRow.holds Trym.pinned (OpenSpec.ofChange fnFirstAtOrAfterWrappingSpec)

/-- ITS FALSE NEIGHBOUR: 'it returns false'. Refute it at one input. -/
def fnFirstAtOrAfterWrappingWrong : ChangeSpec := { name := "fnFirstAtOrAfterWrapping", fn := fun _ => fun
  | [d1, d2, d3, d4, d5, d6, d7] => { results := [.lit (.bool false)], args := [d1, d2, d3, d4, d5, d6, d7] }
  | _ => none }
def FnFirstAtOrAfterWrappingWrongFalsely : Prop := fnFirstAtOrAfterWrappingRow.holds Trym.pinned (OpenSpec.ofChange fnFirstAtOrAfterWrappingWrong)

/-- 'zzlaws_root_b1.FnSortPointsSortsStably': WHATEVER THE INPUT: true; the input reads as it did. -/
def fnSortPointsSortsStablySpec : ChangeSpec := { name := "fnSortPointsSortsStably", fn := fun _ => fun
  | [d1, d2] => { results := [.lit (.bool true)], args := [d1, d2] }
  | _ => none }
def fnSortPointsSortsStablyRow : OpenClaim := { program := "qxb6003649amods", sum := "30200f7a935a0fdbe5ac9ee92e0b35386cf28e0f2770f0a603608e988a407290", func := "example.com/steady-ring/steady-ring/zzlaws_root_b1.FnSortPointsSortsStably", spec := "fnSortPointsSortsStably", make := .lifted ["publicsums"], apart := false }
def FnSortPointsSortsStablySaid : Prop := fnSortPointsSortsStablyRow.holds Trym.pinned (OpenSpec.ofChange fnSortPointsSortsStablySpec)

/-- ITS FALSE NEIGHBOUR: 'it returns false'. Refute it at one input. -/
def fnSortPointsSortsStablyWrong : ChangeSpec := { name := "fnSortPointsSortsStably", fn := fun _ => fun
  | [d1, d2] => { results := [.lit (.bool false)], args := [d1, d2] }
  | _ => none }
def FnSortPointsSortsStablyWrongFalsely : Prop := fnSortPointsSortsStablyRow.holds Trym.pinned (OpenSpec.ofChange fnSortPointsSortsStablyWrong)

/-- 'zzlaws_root_b1.FnNewCircleLayout': WHATEVER THE INPUT: true; the input reads as it did. -/
def fnNewCircleLayoutSpec : ChangeSpec := { name := "fnNewCircleLayout", fn := fun _ => fun
  | [d1, d2] => { results := [.lit (.bool true)], args := [d1, d2] }
  | _ => none }
def fnNewCircleLayoutRow : OpenClaim := { program := "qxb6003649amods", sum := "30200f7a935a0fdbe5ac9ee92e0b35386cf28e0f2770f0a603608e988a407290", func := "example.com/steady-ring/steady-ring/zzlaws_root_b1.FnNewCircleLayout", spec := "fnNewCircleLayout", make := .lifted ["publicsums"], apart := false }
def FnNewCircleLayoutSaid : Prop := fnNewCircleLayoutRow.holds Trym.pinned (OpenSpec.ofChange fnNewCircleLayoutSpec)

/-- ITS FALSE NEIGHBOUR: 'it returns false'. Refute it at one input. -/
def fnNewCircleLayoutWrong : ChangeSpec := { name := "fnNewCircleLayout", fn := fun _ => fun
  | [d1, d2] => { results := [.lit (.bool false)], args := [d1, d2] }
  | _ => none }
def FnNewCircleLayoutWrongFalsely : Prop := fnNewCircleLayoutRow.holds Trym.pinned (OpenSpec.ofChange fnNewCircleLayoutWrong)

/-- 'zzlaws_root_b1.FnNewCircleFirstPicksNextPoint': WHATEVER THE INPUT: true; the input reads as it did. -/
def fnNewCircleFirstPicksNextPointSpec : ChangeSpec := { name := "fnNewCircleFirstPicksNextPoint", fn := fun _ => fun
  | [d1, d2, d3] => { results := [.lit (.bool true)], args := [d1, d2, d3] }
  | _ => none }
def fnNewCircleFirstPicksNextPointRow : OpenClaim := { program := "qxb6003649amods", sum := "30200f7a935a0fdbe5ac9ee92e0b35386cf28e0f2770f0a603608e988a407290", func := "example.com/steady-ring/steady-ring/zzlaws_root_b1.FnNewCircleFirstPicksNextPoint", spec := "fnNewCircleFirstPicksNextPoint", make := .lifted ["publicsums"], apart := false }
def FnNewCircleFirstPicksNextPointSaid : Prop := fnNewCircleFirstPicksNextPointRow.holds Trym.pinned (OpenSpec.ofChange fnNewCircleFirstPicksNextPointSpec)

/-- ITS FALSE NEIGHBOUR: 'it returns false'. Refute it at one input. -/
def fnNewCircleFirstPicksNextPointWrong : ChangeSpec := { name := "fnNewCircleFirstPicksNextPoint", fn := fun _ => fun
  | [d1, d2, d3] => { results := [.lit (.bool false)], args := [d1, d2, d3] }
  | _ => none }
def FnNewCircleFirstPicksNextPointWrongFalsely : Prop := fnNewCircleFirstPicksNextPointRow.holds Trym.pinned (OpenSpec.ofChange fnNewCircleFirstPicksNextPointWrong)

end Rows
end Go.Proofs.Qxb6003649aMods
