/-
  No cell of these rows narrows 'for every input' (looked for: loops, veiled, ifaces, maps, wideKeys, modest, calm, conditions, laid).
  DERIVED. THE GIVEN ROWS OF THIS SEAT. 5 by the template 'for every input the law returns true; each argument reads behind the call as it read before'; 0 by the template 'total and deterministic' (their statements: Qxb6601032aModsTotals.lean).
  GIVEN WITH THE SEED: the statements are not yours to turn. If you find one false, say at which input.
  Laid BY PROGRAM, IN A SANDBOX (cutbox-rows.mjs): the forced cells as the released guide's own fill.sh prints them over the translation 527512320fab252b… (all of the seat's roots in one cut). By AI agents, Wed Nov 11 2026. No macro, syntax, notation, axiom, sorry.
-/
import Derived.Test.Qxb6601032aModsChecked
import GoSem.Claim
import GoSem.ClaimJoined
import GoSem.ClaimMapViews
import Derived.JoinedTies
import Derived.KernelRfl
namespace Go.Proofs.Qxb6601032aMods
/- THE CELL 'sum', in the pinned program and in every row, IS THE sha256 OF THE DUMP (.gsa) THAT Qxb6601032aModsProg.lean LOADS. Nothing in Lean hashes anything: it is a label: what it is worth is what the hold of that sum in a sandbox is worth. -/
noncomputable def Trym.pinned : Pinned := { name := "qxb6601032amods", sum := "527512320fab252bc0b94d83f017a547f795471d3e06dcec234c55039589cab9", checked := Trym.checked }
namespace Rows
def none {H : Type} : Left H := { results := [], args := [] }

/-- 'zzlaws_pkg_terms_b1.FnFigureTagMatchesModel': WHATEVER THE INPUT: true; the input reads as it did. -/
def fnFigureTagMatchesModelSpec : ChangeSpec := { name := "fnFigureTagMatchesModel", fn := fun _ => fun
  | [d] => { results := [.lit (.bool true)], args := [d] }
  | _ => none }
def fnFigureTagMatchesModelRow : OpenClaim := { program := "qxb6601032amods", sum := "527512320fab252bc0b94d83f017a547f795471d3e06dcec234c55039589cab9", func := "example.com/tuoguan/tuoguan/zzlaws_pkg_terms_b1.FnFigureTagMatchesModel", spec := "fnFigureTagMatchesModel", make := .lifted ["publicsums"], apart := false }
def FnFigureTagMatchesModelSaid : Prop := fnFigureTagMatchesModelRow.holds Trym.pinned (OpenSpec.ofChange fnFigureTagMatchesModelSpec)

/-- ITS FALSE NEIGHBOUR: 'it returns false'. Refute it at one input. -/
def fnFigureTagMatchesModelWrong : ChangeSpec := { name := "fnFigureTagMatchesModel", fn := fun _ => fun
  | [d] => { results := [.lit (.bool false)], args := [d] }
  | _ => none }
def FnFigureTagMatchesModelWrongFalsely : Prop := fnFigureTagMatchesModelRow.holds Trym.pinned (OpenSpec.ofChange fnFigureTagMatchesModelWrong)

/-- 'zzlaws_pkg_terms_b1.FnFigureTagDecimalRenderings': WHATEVER THE INPUT: true; the input reads as it did. -/
def fnFigureTagDecimalRenderingsSpec : ChangeSpec := { name := "fnFigureTagDecimalRenderings", fn := fun _ => fun
  | [d1, d2] => { results := [.lit (.bool true)], args := [d1, d2] }
  | _ => none }
def fnFigureTagDecimalRenderingsRow : OpenClaim := { program := "qxb6601032amods", sum := "527512320fab252bc0b94d83f017a547f795471d3e06dcec234c55039589cab9", func := "example.com/tuoguan/tuoguan/zzlaws_pkg_terms_b1.FnFigureTagDecimalRenderings", spec := "fnFigureTagDecimalRenderings", make := .lifted ["publicsums"], apart := false }
def FnFigureTagDecimalRenderingsSaid : Prop := fnFigureTagDecimalRenderingsRow.holds Trym.pinned (OpenSpec.ofChange fnFigureTagDecimalRenderingsSpec)

/-- ITS FALSE NEIGHBOUR: 'it returns false'. Refute it at one input. -/
def fnFigureTagDecimalRenderingsWrong : ChangeSpec := { name := "fnFigureTagDecimalRenderings", fn := fun _ => fun
  | [d1, d2] => { results := [.lit (.bool false)], args := [d1, d2] }
  | _ => none }
def FnFigureTagDecimalRenderingsWrongFalsely : Prop := fnFigureTagDecimalRenderingsRow.holds Trym.pinned (OpenSpec.ofChange fnFigureTagDecimalRenderingsWrong)

/-- 'zzlaws_pkg_terms_b1.FnFigureTagRefusesForeignByte': WHATEVER THE INPUT: true; the input reads as it did. -/
def fnFigureTagRefusesForeignByteSpec : ChangeSpec := { name := "fnFigureTagRefusesForeignByte", fn := fun _ => fun
  | [d1, d2, d3] => { results := [.lit (.bool true)], args := [d1, d2, d3] }
  | _ => none }
def fnFigureTagRefusesForeignByteRow : OpenClaim := { program := "qxb6601032amods", sum := "527512320fab252bc0b94d83f017a547f795471d3e06dcec234c55039589cab9", func := "example.com/tuoguan/tuoguan/zzlaws_pkg_terms_b1.FnFigureTagRefusesForeignByte", spec := "fnFigureTagRefusesForeignByte", make := .lifted ["publicsums"], apart := false }
def FnFigureTagRefusesForeignByteSaid : Prop := fnFigureTagRefusesForeignByteRow.holds Trym.pinned (OpenSpec.ofChange fnFigureTagRefusesForeignByteSpec)

/-- ITS FALSE NEIGHBOUR: 'it returns false'. Refute it at one input. -/
def fnFigureTagRefusesForeignByteWrong : ChangeSpec := { name := "fnFigureTagRefusesForeignByte", fn := fun _ => fun
  | [d1, d2, d3] => { results := [.lit (.bool false)], args := [d1, d2, d3] }
  | _ => none }
def FnFigureTagRefusesForeignByteWrongFalsely : Prop := fnFigureTagRefusesForeignByteRow.holds Trym.pinned (OpenSpec.ofChange fnFigureTagRefusesForeignByteWrong)

/-- 'zzlaws_pkg_terms_b1.FnCutKeyMatchesModel': WHATEVER THE INPUT: true; the input reads as it did. -/
def fnCutKeyMatchesModelSpec : ChangeSpec := { name := "fnCutKeyMatchesModel", fn := fun _ => fun
  | [d] => { results := [.lit (.bool true)], args := [d] }
  | _ => none }
def fnCutKeyMatchesModelRow : OpenClaim := { program := "qxb6601032amods", sum := "527512320fab252bc0b94d83f017a547f795471d3e06dcec234c55039589cab9", func := "example.com/tuoguan/tuoguan/zzlaws_pkg_terms_b1.FnCutKeyMatchesModel", spec := "fnCutKeyMatchesModel", make := .lifted ["publicsums"], apart := false }
def FnCutKeyMatchesModelSaid : Prop := fnCutKeyMatchesModelRow.holds Trym.pinned (OpenSpec.ofChange fnCutKeyMatchesModelSpec)

/-- ITS FALSE NEIGHBOUR: 'it returns false'. Refute it at one input. -/
def fnCutKeyMatchesModelWrong : ChangeSpec := { name := "fnCutKeyMatchesModel", fn := fun _ => fun
  | [d] => { results := [.lit (.bool false)], args := [d] }
  | _ => none }
def FnCutKeyMatchesModelWrongFalsely : Prop := fnCutKeyMatchesModelRow.holds Trym.pinned (OpenSpec.ofChange fnCutKeyMatchesModelWrong)

/-- 'zzlaws_pkg_terms_b1.FnCutKeyRoundTrip': WHATEVER THE INPUT: true; the input reads as it did. -/
def fnCutKeyRoundTripSpec : ChangeSpec := { name := "fnCutKeyRoundTrip", fn := fun _ => fun
  | [d1, d2] => { results := [.lit (.bool true)], args := [d1, d2] }
  | _ => none }
def fnCutKeyRoundTripRow : OpenClaim := { program := "qxb6601032amods", sum := "527512320fab252bc0b94d83f017a547f795471d3e06dcec234c55039589cab9", func := "example.com/tuoguan/tuoguan/zzlaws_pkg_terms_b1.FnCutKeyRoundTrip", spec := "fnCutKeyRoundTrip", make := .lifted ["publicsums"], apart := false }
def FnCutKeyRoundTripSaid : Prop := fnCutKeyRoundTripRow.holds Trym.pinned (OpenSpec.ofChange fnCutKeyRoundTripSpec)

/-- ITS FALSE NEIGHBOUR: 'it returns false'. Refute it at one input. -/
def fnCutKeyRoundTripWrong : ChangeSpec := { name := "fnCutKeyRoundTrip", fn := fun _ => fun
  | [d1, d2] => { results := [.lit (.bool false)], args := [d1, d2] }
  | _ => none }
def FnCutKeyRoundTripWrongFalsely : Prop := fnCutKeyRoundTripRow.holds Trym.pinned (OpenSpec.ofChange fnCutKeyRoundTripWrong)

end Rows
end Go.Proofs.Qxb6601032aMods
