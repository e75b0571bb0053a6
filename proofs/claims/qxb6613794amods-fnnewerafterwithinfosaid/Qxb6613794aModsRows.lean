/-
  No cell of these rows narrows 'for every input' (looked for: loops, veiled, ifaces, maps, wideKeys, modest, calm, conditions, laid).
  DERIVED. THE GIVEN ROWS OF THIS SEAT. 6 by the template 'for every input the law returns true; each argument reads behind the call as it read before'; 0 by the template 'total and deterministic' (their statements: Qxb6613794aModsTotals.lean).
  GIVEN WITH THE SEED: the statements are not yours to turn. If you find one false, say at which input.
  Laid BY PROGRAM, IN A SANDBOX (cutbox-rows.mjs): the forced cells as the released guide's own fill.sh prints them over the translation b49229155960ec30… (all of the seat's roots in one cut). By AI agents, Wed Nov 11 2026. No macro, syntax, notation, axiom, sorry.
-/
import Derived.Test.Qxb6613794aModsChecked
import GoSem.Claim
import GoSem.ClaimJoined
import GoSem.ClaimMapViews
import Derived.JoinedTies
import Derived.KernelRfl
namespace Go.Proofs.Qxb6613794aMods
/- THE CELL 'sum', in the pinned program and in every row, IS THE sha256 OF THE DUMP (.gsa) THAT Qxb6613794aModsProg.lean LOADS. Nothing in Lean hashes anything: it is a label: what it is worth is what the hold of that sum in a sandbox is worth. -/
noncomputable def Trym.pinned : Pinned := { name := "qxb6613794amods", sum := "b49229155960ec30be622b7eaa0682f185fc929ec58cd25cf2551842c6534139", checked := Trym.checked }
namespace Rows
def none {H : Type} : Left H := { results := [], args := [] }

/-- 'zzlaws_root_b1.FnStalerAfterWithInfo': WHATEVER THE INPUT: true; the input reads as it did. -/
def fnStalerAfterWithInfoSpec : ChangeSpec := { name := "fnStalerAfterWithInfo", fn := fun _ => fun
  | [d1, d2, d3, d4, d5, d6] => { results := [.lit (.bool true)], args := [d1, d2, d3, d4, d5, d6] }
  | _ => none }
def fnStalerAfterWithInfoRow : OpenClaim := { program := "qxb6613794amods", sum := "b49229155960ec30be622b7eaa0682f185fc929ec58cd25cf2551842c6534139", func := "example.com/acquaint/acquaint/zzlaws_root_b1.FnStalerAfterWithInfo", spec := "fnStalerAfterWithInfo", make := .lifted ["publicsums"], apart := false }
def FnStalerAfterWithInfoSaid : Prop := fnStalerAfterWithInfoRow.holds Trym.pinned (OpenSpec.ofChange fnStalerAfterWithInfoSpec)

/-- ITS FALSE NEIGHBOUR: 'it returns false'. Refute it at one input. -/
def fnStalerAfterWithInfoWrong : ChangeSpec := { name := "fnStalerAfterWithInfo", fn := fun _ => fun
  | [d1, d2, d3, d4, d5, d6] => { results := [.lit (.bool false)], args := [d1, d2, d3, d4, d5, d6] }
  | _ => none }
def FnStalerAfterWithInfoWrongFalsely : Prop := fnStalerAfterWithInfoRow.holds Trym.pinned (OpenSpec.ofChange fnStalerAfterWithInfoWrong)

/-- 'zzlaws_root_b1.FnStalerOneWayWithinARun': WHATEVER THE INPUT: true; the input reads as it did. -/
def fnStalerOneWayWithinARunSpec : ChangeSpec := { name := "fnStalerOneWayWithinARun", fn := fun _ => fun
  | [d1, d2, d3, d4, d5, d6, d7, d8, d9, d10] => { results := [.lit (.bool true)], args := [d1, d2, d3, d4, d5, d6, d7, d8, d9, d10] }
  | _ => none }
def fnStalerOneWayWithinARunRow : OpenClaim := { program := "qxb6613794amods", sum := "b49229155960ec30be622b7eaa0682f185fc929ec58cd25cf2551842c6534139", func := "example.com/acquaint/acquaint/zzlaws_root_b1.FnStalerOneWayWithinARun", spec := "fnStalerOneWayWithinARun", make := .lifted ["publicsums"], apart := false }
def FnStalerOneWayWithinARunSaid : Prop := fnStalerOneWayWithinARunRow.holds Trym.pinned (OpenSpec.ofChange fnStalerOneWayWithinARunSpec)

/-- ITS FALSE NEIGHBOUR: 'it returns false'. Refute it at one input. -/
def fnStalerOneWayWithinARunWrong : ChangeSpec := { name := "fnStalerOneWayWithinARun", fn := fun _ => fun
  | [d1, d2, d3, d4, d5, d6, d7, d8, d9, d10] => { results := [.lit (.bool false)], args := [d1, d2, d3, d4, d5, d6, d7, d8, d9, d10] }
  | _ => none }
def FnStalerOneWayWithinARunWrongFalsely : Prop := fnStalerOneWayWithinARunRow.holds Trym.pinned (OpenSpec.ofChange fnStalerOneWayWithinARunWrong)

/-- 'zzlaws_root_b1.FnNewerStrictTotalOrder': WHATEVER THE INPUT: true; the input reads as it did. -/
def fnNewerStrictTotalOrderSpec : ChangeSpec := { name := "fnNewerStrictTotalOrder", fn := fun _ => fun
  | [d1, d2, d3, d4, d5, d6, d7, d8, d9, d10] => { results := [.lit (.bool true)], args := [d1, d2, d3, d4, d5, d6, d7, d8, d9, d10] }
  | _ => none }
def fnNewerStrictTotalOrderRow : OpenClaim := { program := "qxb6613794amods", sum := "b49229155960ec30be622b7eaa0682f185fc929ec58cd25cf2551842c6534139", func := "example.com/acquaint/acquaint/zzlaws_root_b1.FnNewerStrictTotalOrder", spec := "fnNewerStrictTotalOrder", make := .lifted ["publicsums"], apart := false }
def FnNewerStrictTotalOrderSaid : Prop := fnNewerStrictTotalOrderRow.holds Trym.pinned (OpenSpec.ofChange fnNewerStrictTotalOrderSpec)

/-- ITS FALSE NEIGHBOUR: 'it returns false'. Refute it at one input. -/
def fnNewerStrictTotalOrderWrong : ChangeSpec := { name := "fnNewerStrictTotalOrder", fn := fun _ => fun
  | [d1, d2, d3, d4, d5, d6, d7, d8, d9, d10] => { results := [.lit (.bool false)], args := [d1, d2, d3, d4, d5, d6, d7, d8, d9, d10] }
  | _ => none }
def FnNewerStrictTotalOrderWrongFalsely : Prop := fnNewerStrictTotalOrderRow.holds Trym.pinned (OpenSpec.ofChange fnNewerStrictTotalOrderWrong)

/-- 'zzlaws_root_b1.FnNewerAfterWithInfo': WHATEVER THE INPUT: true; the input reads as it did. -/
def fnNewerAfterWithInfoSpec : ChangeSpec := { name := "fnNewerAfterWithInfo", fn := fun _ => fun
  | [d1, d2, d3, d4, d5, d6, d7, d8, d9, d10, d11] => { results := [.lit (.bool true)], args := [d1, d2, d3, d4, d5, d6, d7, d8, d9, d10, d11] }
  | _ => none }
def fnNewerAfterWithInfoRow : OpenClaim := { program := "qxb6613794amods", sum := "b49229155960ec30be622b7eaa0682f185fc929ec58cd25cf2551842c6534139", func := "example.com/acquaint/acquaint/zzlaws_root_b1.FnNewerAfterWithInfo", spec := "fnNewerAfterWithInfo", make := .lifted ["publicsums"], apart := false }
def FnNewerAfterWithInfoSaid : Prop := fnNewerAfterWithInfoRow.holds Trym.pinned (OpenSpec.ofChange fnNewerAfterWithInfoSpec)

/-- ITS FALSE NEIGHBOUR: 'it returns false'. Refute it at one input. -/
def fnNewerAfterWithInfoWrong : ChangeSpec := { name := "fnNewerAfterWithInfo", fn := fun _ => fun
  | [d1, d2, d3, d4, d5, d6, d7, d8, d9, d10, d11] => { results := [.lit (.bool false)], args := [d1, d2, d3, d4, d5, d6, d7, d8, d9, d10, d11] }
  | _ => none }
def FnNewerAfterWithInfoWrongFalsely : Prop := fnNewerAfterWithInfoRow.holds Trym.pinned (OpenSpec.ofChange fnNewerAfterWithInfoWrong)

/-- 'zzlaws_root_b1.FnAdoptedAtJoinedAtAnyCut': WHATEVER THE INPUT: true; the input reads as it did. -/
def fnAdoptedAtJoinedAtAnyCutSpec : ChangeSpec := { name := "fnAdoptedAtJoinedAtAnyCut", fn := fun _ => fun
  | [d1, d2, d3, d4, d5, d6, d7] => { results := [.lit (.bool true)], args := [d1, d2, d3, d4, d5, d6, d7] }
  | _ => none }
def fnAdoptedAtJoinedAtAnyCutRow : OpenClaim := { program := "qxb6613794amods", sum := "b49229155960ec30be622b7eaa0682f185fc929ec58cd25cf2551842c6534139", func := "example.com/acquaint/acquaint/zzlaws_root_b1.FnAdoptedAtJoinedAtAnyCut", spec := "fnAdoptedAtJoinedAtAnyCut", unfollowed := true, recurses := true, make := .lifted ["publicsums"], apart := false }
def FnAdoptedAtJoinedAtAnyCutSaid : Prop := fnAdoptedAtJoinedAtAnyCutRow.holds Trym.pinned (OpenSpec.ofChange fnAdoptedAtJoinedAtAnyCutSpec)

/-- ITS FALSE NEIGHBOUR: 'it returns false'. Refute it at one input. -/
def fnAdoptedAtJoinedAtAnyCutWrong : ChangeSpec := { name := "fnAdoptedAtJoinedAtAnyCut", fn := fun _ => fun
  | [d1, d2, d3, d4, d5, d6, d7] => { results := [.lit (.bool false)], args := [d1, d2, d3, d4, d5, d6, d7] }
  | _ => none }
def FnAdoptedAtJoinedAtAnyCutWrongFalsely : Prop := fnAdoptedAtJoinedAtAnyCutRow.holds Trym.pinned (OpenSpec.ofChange fnAdoptedAtJoinedAtAnyCutWrong)

/-- 'zzlaws_root_b1.FnAdoptedAtInsertedAtAnyPlace': WHATEVER THE INPUT: true; the input reads as it did. -/
def fnAdoptedAtInsertedAtAnyPlaceSpec : ChangeSpec := { name := "fnAdoptedAtInsertedAtAnyPlace", fn := fun _ => fun
  | [d1, d2, d3, d4, d5, d6, d7] => { results := [.lit (.bool true)], args := [d1, d2, d3, d4, d5, d6, d7] }
  | _ => none }
def fnAdoptedAtInsertedAtAnyPlaceRow : OpenClaim := { program := "qxb6613794amods", sum := "b49229155960ec30be622b7eaa0682f185fc929ec58cd25cf2551842c6534139", func := "example.com/acquaint/acquaint/zzlaws_root_b1.FnAdoptedAtInsertedAtAnyPlace", spec := "fnAdoptedAtInsertedAtAnyPlace", unfollowed := true, recurses := true, make := .lifted ["publicsums"], apart := false }
def FnAdoptedAtInsertedAtAnyPlaceSaid : Prop := fnAdoptedAtInsertedAtAnyPlaceRow.holds Trym.pinned (OpenSpec.ofChange fnAdoptedAtInsertedAtAnyPlaceSpec)

/-- ITS FALSE NEIGHBOUR: 'it returns false'. Refute it at one input. -/
def fnAdoptedAtInsertedAtAnyPlaceWrong : ChangeSpec := { name := "fnAdoptedAtInsertedAtAnyPlace", fn := fun _ => fun
  | [d1, d2, d3, d4, d5, d6, d7] => { results := [.lit (.bool false)], args := [d1, d2, d3, d4, d5, d6, d7] }
  | _ => none }
def FnAdoptedAtInsertedAtAnyPlaceWrongFalsely : Prop := fnAdoptedAtInsertedAtAnyPlaceRow.holds Trym.pinned (OpenSpec.ofChange fnAdoptedAtInsertedAtAnyPlaceWrong)

end Rows
end Go.Proofs.Qxb6613794aMods
