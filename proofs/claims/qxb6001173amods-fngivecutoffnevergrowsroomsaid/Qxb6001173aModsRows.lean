/-
  No cell of these rows narrows 'for every input' (looked for: loops, veiled, ifaces, maps, wideKeys, modest, calm, conditions, laid).
  DERIVED. THE GIVEN ROWS OF THIS SEAT. 6 by the template 'for every input the law returns true; each argument reads behind the call as it read before'; 0 by the template 'total and deterministic' (their statements: Qxb6001173aModsTotals.lean).
  GIVEN WITH THE SEED: the statements are not yours to turn. If you find one false, say at which input.
  Laid BY PROGRAM, IN A SANDBOX (cutbox-rows.mjs): the forced cells as the released guide's own fill.sh prints them over the translation 7b05bec51354ba1a… (all of the seat's roots in one cut). By AI agents, Wed Nov 11 2026. No macro, syntax, notation, axiom, sorry.
-/
import Derived.Test.Qxb6001173aModsChecked
import GoSem.Claim
import GoSem.ClaimJoined
import GoSem.ClaimMapViews
import Derived.JoinedTies
import Derived.KernelRfl
namespace Go.Proofs.Qxb6001173aMods
/- THE CELL 'sum', in the pinned program and in every row, IS THE sha256 OF THE DUMP (.gsa) THAT Qxb6001173aModsProg.lean LOADS. Nothing in Lean hashes anything: it is a label: what it is worth is what the hold of that sum in a sandbox is worth. -/
noncomputable def Trym.pinned : Pinned := { name := "qxb6001173amods", sum := "7b05bec51354ba1abb1fba746acc1983023732c8b2c19bdc3d9848b59d220802", checked := Trym.checked }
namespace Rows
def none {H : Type} : Left H := { results := [], args := [] }

/-- 'zzlaws_internal_engine_b1.FnScriptKeepsBounds': WHATEVER THE INPUT: true; the input reads as it did. -/
def fnScriptKeepsBoundsSpec : ChangeSpec := { name := "fnScriptKeepsBounds", fn := fun _ => fun
  | [d1, d2, d3] => { results := [.lit (.bool true)], args := [d1, d2, d3] }
  | _ => none }
def fnScriptKeepsBoundsRow : OpenClaim := { program := "qxb6001173amods", sum := "7b05bec51354ba1abb1fba746acc1983023732c8b2c19bdc3d9848b59d220802", func := "example.com/surelane/surelane/zzlaws_internal_engine_b1.FnScriptKeepsBounds", spec := "fnScriptKeepsBounds", make := .lifted ["publicsums"], apart := false }
def FnScriptKeepsBoundsSaid : Prop := fnScriptKeepsBoundsRow.holds Trym.pinned (OpenSpec.ofChange fnScriptKeepsBoundsSpec)

/-- ITS FALSE NEIGHBOUR: 'it returns false'. Refute it at one input. -/
def fnScriptKeepsBoundsWrong : ChangeSpec := { name := "fnScriptKeepsBounds", fn := fun _ => fun
  | [d1, d2, d3] => { results := [.lit (.bool false)], args := [d1, d2, d3] }
  | _ => none }
def FnScriptKeepsBoundsWrongFalsely : Prop := fnScriptKeepsBoundsRow.holds Trym.pinned (OpenSpec.ofChange fnScriptKeepsBoundsWrong)

/-- 'zzlaws_internal_engine_b1.FnTurnsStaysWithinRoom': WHATEVER THE INPUT: true; the input reads as it did. -/
def fnTurnsStaysWithinRoomSpec : ChangeSpec := { name := "fnTurnsStaysWithinRoom", fn := fun _ => fun
  | [d1, d2, d3, d4] => { results := [.lit (.bool true)], args := [d1, d2, d3, d4] }
  | _ => none }
def fnTurnsStaysWithinRoomRow : OpenClaim := { program := "qxb6001173amods", sum := "7b05bec51354ba1abb1fba746acc1983023732c8b2c19bdc3d9848b59d220802", func := "example.com/surelane/surelane/zzlaws_internal_engine_b1.FnTurnsStaysWithinRoom", spec := "fnTurnsStaysWithinRoom", make := .lifted ["publicsums"], apart := false }
def FnTurnsStaysWithinRoomSaid : Prop := fnTurnsStaysWithinRoomRow.holds Trym.pinned (OpenSpec.ofChange fnTurnsStaysWithinRoomSpec)

/-- ITS FALSE NEIGHBOUR: 'it returns false'. Refute it at one input. -/
def fnTurnsStaysWithinRoomWrong : ChangeSpec := { name := "fnTurnsStaysWithinRoom", fn := fun _ => fun
  | [d1, d2, d3, d4] => { results := [.lit (.bool false)], args := [d1, d2, d3, d4] }
  | _ => none }
def FnTurnsStaysWithinRoomWrongFalsely : Prop := fnTurnsStaysWithinRoomRow.holds Trym.pinned (OpenSpec.ofChange fnTurnsStaysWithinRoomWrong)

/-- 'zzlaws_internal_engine_b1.FnClaimStaysWithinRoom': WHATEVER THE INPUT: true; the input reads as it did. -/
def fnClaimStaysWithinRoomSpec : ChangeSpec := { name := "fnClaimStaysWithinRoom", fn := fun _ => fun
  | [d1, d2, d3] => { results := [.lit (.bool true)], args := [d1, d2, d3] }
  | _ => none }
def fnClaimStaysWithinRoomRow : OpenClaim := { program := "qxb6001173amods", sum := "7b05bec51354ba1abb1fba746acc1983023732c8b2c19bdc3d9848b59d220802", func := "example.com/surelane/surelane/zzlaws_internal_engine_b1.FnClaimStaysWithinRoom", spec := "fnClaimStaysWithinRoom", make := .lifted ["publicsums"], apart := false }
def FnClaimStaysWithinRoomSaid : Prop := fnClaimStaysWithinRoomRow.holds Trym.pinned (OpenSpec.ofChange fnClaimStaysWithinRoomSpec)

/-- ITS FALSE NEIGHBOUR: 'it returns false'. Refute it at one input. -/
def fnClaimStaysWithinRoomWrong : ChangeSpec := { name := "fnClaimStaysWithinRoom", fn := fun _ => fun
  | [d1, d2, d3] => { results := [.lit (.bool false)], args := [d1, d2, d3] }
  | _ => none }
def FnClaimStaysWithinRoomWrongFalsely : Prop := fnClaimStaysWithinRoomRow.holds Trym.pinned (OpenSpec.ofChange fnClaimStaysWithinRoomWrong)

/-- 'zzlaws_internal_engine_b1.FnClaimFirstIsFreshKeysRoom': WHATEVER THE INPUT: true; the input reads as it did. -/
def fnClaimFirstIsFreshKeysRoomSpec : ChangeSpec := { name := "fnClaimFirstIsFreshKeysRoom", fn := fun _ => fun
  | [d1, d2, d3] => { results := [.lit (.bool true)], args := [d1, d2, d3] }
  | _ => none }
def fnClaimFirstIsFreshKeysRoomRow : OpenClaim := { program := "qxb6001173amods", sum := "7b05bec51354ba1abb1fba746acc1983023732c8b2c19bdc3d9848b59d220802", func := "example.com/surelane/surelane/zzlaws_internal_engine_b1.FnClaimFirstIsFreshKeysRoom", spec := "fnClaimFirstIsFreshKeysRoom", make := .lifted ["publicsums"], apart := false }
def FnClaimFirstIsFreshKeysRoomSaid : Prop := fnClaimFirstIsFreshKeysRoomRow.holds Trym.pinned (OpenSpec.ofChange fnClaimFirstIsFreshKeysRoomSpec)

/-- ITS FALSE NEIGHBOUR: 'it returns false'. Refute it at one input. -/
def fnClaimFirstIsFreshKeysRoomWrong : ChangeSpec := { name := "fnClaimFirstIsFreshKeysRoom", fn := fun _ => fun
  | [d1, d2, d3] => { results := [.lit (.bool false)], args := [d1, d2, d3] }
  | _ => none }
def FnClaimFirstIsFreshKeysRoomWrongFalsely : Prop := fnClaimFirstIsFreshKeysRoomRow.holds Trym.pinned (OpenSpec.ofChange fnClaimFirstIsFreshKeysRoomWrong)

/-- 'zzlaws_internal_engine_b1.FnGiveInTimeNeverShrinksRoom': WHATEVER THE INPUT: true; the input reads as it did. -/
def fnGiveInTimeNeverShrinksRoomSpec : ChangeSpec := { name := "fnGiveInTimeNeverShrinksRoom", fn := fun _ => fun
  | [d1, d2, d3, d4] => { results := [.lit (.bool true)], args := [d1, d2, d3, d4] }
  | _ => none }
def fnGiveInTimeNeverShrinksRoomRow : OpenClaim := { program := "qxb6001173amods", sum := "7b05bec51354ba1abb1fba746acc1983023732c8b2c19bdc3d9848b59d220802", func := "example.com/surelane/surelane/zzlaws_internal_engine_b1.FnGiveInTimeNeverShrinksRoom", spec := "fnGiveInTimeNeverShrinksRoom", make := .lifted ["publicsums"], apart := false }
def FnGiveInTimeNeverShrinksRoomSaid : Prop := fnGiveInTimeNeverShrinksRoomRow.holds Trym.pinned (OpenSpec.ofChange fnGiveInTimeNeverShrinksRoomSpec)

/-- ITS FALSE NEIGHBOUR: 'it returns false'. Refute it at one input. -/
def fnGiveInTimeNeverShrinksRoomWrong : ChangeSpec := { name := "fnGiveInTimeNeverShrinksRoom", fn := fun _ => fun
  | [d1, d2, d3, d4] => { results := [.lit (.bool false)], args := [d1, d2, d3, d4] }
  | _ => none }
def FnGiveInTimeNeverShrinksRoomWrongFalsely : Prop := fnGiveInTimeNeverShrinksRoomRow.holds Trym.pinned (OpenSpec.ofChange fnGiveInTimeNeverShrinksRoomWrong)

/-- 'zzlaws_internal_engine_b1.FnGiveCutOffNeverGrowsRoom': WHATEVER THE INPUT: true; the input reads as it did. -/
def fnGiveCutOffNeverGrowsRoomSpec : ChangeSpec := { name := "fnGiveCutOffNeverGrowsRoom", fn := fun _ => fun
  | [d1, d2, d3, d4] => { results := [.lit (.bool true)], args := [d1, d2, d3, d4] }
  | _ => none }
def fnGiveCutOffNeverGrowsRoomRow : OpenClaim := { program := "qxb6001173amods", sum := "7b05bec51354ba1abb1fba746acc1983023732c8b2c19bdc3d9848b59d220802", func := "example.com/surelane/surelane/zzlaws_internal_engine_b1.FnGiveCutOffNeverGrowsRoom", spec := "fnGiveCutOffNeverGrowsRoom", make := .lifted ["publicsums"], apart := false }
def FnGiveCutOffNeverGrowsRoomSaid : Prop := fnGiveCutOffNeverGrowsRoomRow.holds Trym.pinned (OpenSpec.ofChange fnGiveCutOffNeverGrowsRoomSpec)

/-- ITS FALSE NEIGHBOUR: 'it returns false'. Refute it at one input. -/
def fnGiveCutOffNeverGrowsRoomWrong : ChangeSpec := { name := "fnGiveCutOffNeverGrowsRoom", fn := fun _ => fun
  | [d1, d2, d3, d4] => { results := [.lit (.bool false)], args := [d1, d2, d3, d4] }
  | _ => none }
def FnGiveCutOffNeverGrowsRoomWrongFalsely : Prop := fnGiveCutOffNeverGrowsRoomRow.holds Trym.pinned (OpenSpec.ofChange fnGiveCutOffNeverGrowsRoomWrong)

end Rows
end Go.Proofs.Qxb6001173aMods
