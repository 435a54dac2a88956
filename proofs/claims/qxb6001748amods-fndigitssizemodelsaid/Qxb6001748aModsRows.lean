/-
  No cell of these rows narrows 'for every input' (looked for: loops, veiled, ifaces, maps, wideKeys, modest, calm, conditions, laid).
  DERIVED. THE GIVEN ROWS OF THIS SEAT. 6 by the template 'for every input the law returns true; each argument reads behind the call as it read before'; 0 by the template 'total and deterministic' (their statements: Qxb6001748aModsTotals.lean).
  GIVEN WITH THE SEED: the statements are not yours to turn. If you find one false, say at which input.
  Laid BY PROGRAM, IN A SANDBOX (cutbox-rows.mjs): the forced cells as the released guide's own fill.sh prints them over the translation bbcaeda5e3afd0e0… (all of the seat's roots in one cut). By AI agents, Wed Nov 11 2026. No macro, syntax, notation, axiom, sorry.
-/
import Derived.Test.Qxb6001748aModsChecked
import GoSem.Claim
import GoSem.ClaimJoined
import GoSem.ClaimMapViews
import Derived.JoinedTies
import Derived.KernelRfl
namespace Go.Proofs.Qxb6001748aMods
/- THE CELL 'sum', in the pinned program and in every row, IS THE sha256 OF THE DUMP (.gsa) THAT Qxb6001748aModsProg.lean LOADS. Nothing in Lean hashes anything: it is a label: what it is worth is what the hold of that sum in a sandbox is worth. -/
noncomputable def Trym.pinned : Pinned := { name := "qxb6001748amods", sum := "bbcaeda5e3afd0e0bb2f6290b7caa2e327af33be030a18028f40603b08580765", checked := Trym.checked }
namespace Rows
def none {H : Type} : Left H := { results := [], args := [] }

/-- 'zzlaws_internal_jinja_b1.FnPointedIdempotent': WHATEVER THE INPUT: true; the input reads as it did. -/
def fnPointedIdempotentSpec : ChangeSpec := { name := "fnPointedIdempotent", fn := fun _ => fun
  | [d] => { results := [.lit (.bool true)], args := [d] }
  | _ => none }
def fnPointedIdempotentRow : OpenClaim := { program := "qxb6001748amods", sum := "bbcaeda5e3afd0e0bb2f6290b7caa2e327af33be030a18028f40603b08580765", func := "example.com/cradle/cradle/zzlaws_internal_jinja_b1.FnPointedIdempotent", spec := "fnPointedIdempotent", inPlace := ["internal/bytealg.IndexByteString", "internal/bytealg.IndexString"], named := ["internal/bytealg.MaxLen"], make := .lifted ["publicsums"], apart := false }
def FnPointedIdempotentSaid : Prop := fnPointedIdempotentRow.holds Trym.pinned (OpenSpec.ofChange fnPointedIdempotentSpec)

/-- ITS FALSE NEIGHBOUR: 'it returns false'. Refute it at one input. -/
def fnPointedIdempotentWrong : ChangeSpec := { name := "fnPointedIdempotent", fn := fun _ => fun
  | [d] => { results := [.lit (.bool false)], args := [d] }
  | _ => none }
def FnPointedIdempotentWrongFalsely : Prop := fnPointedIdempotentRow.holds Trym.pinned (OpenSpec.ofChange fnPointedIdempotentWrong)

/-- 'zzlaws_internal_jinja_b1.FnPointedInsertsOneDotAtMost': WHATEVER THE INPUT: true; the input reads as it did. -/
def fnPointedInsertsOneDotAtMostSpec : ChangeSpec := { name := "fnPointedInsertsOneDotAtMost", fn := fun _ => fun
  | [d] => { results := [.lit (.bool true)], args := [d] }
  | _ => none }
def fnPointedInsertsOneDotAtMostRow : OpenClaim := { program := "qxb6001748amods", sum := "bbcaeda5e3afd0e0bb2f6290b7caa2e327af33be030a18028f40603b08580765", func := "example.com/cradle/cradle/zzlaws_internal_jinja_b1.FnPointedInsertsOneDotAtMost", spec := "fnPointedInsertsOneDotAtMost", inPlace := ["internal/bytealg.IndexByteString", "internal/bytealg.IndexString"], named := ["internal/bytealg.MaxLen"], make := .lifted ["publicsums"], apart := false }
def FnPointedInsertsOneDotAtMostSaid : Prop := fnPointedInsertsOneDotAtMostRow.holds Trym.pinned (OpenSpec.ofChange fnPointedInsertsOneDotAtMostSpec)

/-- ITS FALSE NEIGHBOUR: 'it returns false'. Refute it at one input. -/
def fnPointedInsertsOneDotAtMostWrong : ChangeSpec := { name := "fnPointedInsertsOneDotAtMost", fn := fun _ => fun
  | [d] => { results := [.lit (.bool false)], args := [d] }
  | _ => none }
def FnPointedInsertsOneDotAtMostWrongFalsely : Prop := fnPointedInsertsOneDotAtMostRow.holds Trym.pinned (OpenSpec.ofChange fnPointedInsertsOneDotAtMostWrong)

/-- 'zzlaws_internal_jinja_b1.FnDigitsSizeModel': WHATEVER THE INPUT: true; the input reads as it did. -/
def fnDigitsSizeModelSpec : ChangeSpec := { name := "fnDigitsSizeModel", fn := fun _ => fun
  | [d] => { results := [.lit (.bool true)], args := [d] }
  | _ => none }
def fnDigitsSizeModelRow : OpenClaim := { program := "qxb6001748amods", sum := "bbcaeda5e3afd0e0bb2f6290b7caa2e327af33be030a18028f40603b08580765", func := "example.com/cradle/cradle/zzlaws_internal_jinja_b1.FnDigitsSizeModel", spec := "fnDigitsSizeModel", make := .lifted ["publicsums"], apart := false }
def FnDigitsSizeModelSaid : Prop := fnDigitsSizeModelRow.holds Trym.pinned (OpenSpec.ofChange fnDigitsSizeModelSpec)

/-- ITS FALSE NEIGHBOUR: 'it returns false'. Refute it at one input. -/
def fnDigitsSizeModelWrong : ChangeSpec := { name := "fnDigitsSizeModel", fn := fun _ => fun
  | [d] => { results := [.lit (.bool false)], args := [d] }
  | _ => none }
def FnDigitsSizeModelWrongFalsely : Prop := fnDigitsSizeModelRow.holds Trym.pinned (OpenSpec.ofChange fnDigitsSizeModelWrong)

/-- 'zzlaws_internal_jinja_b1.FnDigitsSizeAppendDigit': WHATEVER THE INPUT: true; the input reads as it did. -/
def fnDigitsSizeAppendDigitSpec : ChangeSpec := { name := "fnDigitsSizeAppendDigit", fn := fun _ => fun
  | [d1, d2] => { results := [.lit (.bool true)], args := [d1, d2] }
  | _ => none }
def fnDigitsSizeAppendDigitRow : OpenClaim := { program := "qxb6001748amods", sum := "bbcaeda5e3afd0e0bb2f6290b7caa2e327af33be030a18028f40603b08580765", func := "example.com/cradle/cradle/zzlaws_internal_jinja_b1.FnDigitsSizeAppendDigit", spec := "fnDigitsSizeAppendDigit", make := .lifted ["publicsums"], apart := false }
def FnDigitsSizeAppendDigitSaid : Prop := fnDigitsSizeAppendDigitRow.holds Trym.pinned (OpenSpec.ofChange fnDigitsSizeAppendDigitSpec)

/-- ITS FALSE NEIGHBOUR: 'it returns false'. Refute it at one input. -/
def fnDigitsSizeAppendDigitWrong : ChangeSpec := { name := "fnDigitsSizeAppendDigit", fn := fun _ => fun
  | [d1, d2] => { results := [.lit (.bool false)], args := [d1, d2] }
  | _ => none }
def FnDigitsSizeAppendDigitWrongFalsely : Prop := fnDigitsSizeAppendDigitRow.holds Trym.pinned (OpenSpec.ofChange fnDigitsSizeAppendDigitWrong)

/-- 'zzlaws_internal_jinja_b1.FnDigitsInAgreesOnARun': WHATEVER THE INPUT: true; the input reads as it did. -/
def fnDigitsInAgreesOnARunSpec : ChangeSpec := { name := "fnDigitsInAgreesOnARun", fn := fun _ => fun
  | [d] => { results := [.lit (.bool true)], args := [d] }
  | _ => none }
def fnDigitsInAgreesOnARunRow : OpenClaim := { program := "qxb6001748amods", sum := "bbcaeda5e3afd0e0bb2f6290b7caa2e327af33be030a18028f40603b08580765", func := "example.com/cradle/cradle/zzlaws_internal_jinja_b1.FnDigitsInAgreesOnARun", spec := "fnDigitsInAgreesOnARun", make := .lifted ["publicsums"], apart := false }
def FnDigitsInAgreesOnARunSaid : Prop := fnDigitsInAgreesOnARunRow.holds Trym.pinned (OpenSpec.ofChange fnDigitsInAgreesOnARunSpec)

/-- ITS FALSE NEIGHBOUR: 'it returns false'. Refute it at one input. -/
def fnDigitsInAgreesOnARunWrong : ChangeSpec := { name := "fnDigitsInAgreesOnARun", fn := fun _ => fun
  | [d] => { results := [.lit (.bool false)], args := [d] }
  | _ => none }
def FnDigitsInAgreesOnARunWrongFalsely : Prop := fnDigitsInAgreesOnARunRow.holds Trym.pinned (OpenSpec.ofChange fnDigitsInAgreesOnARunWrong)

/-- 'zzlaws_internal_jinja_b1.FnDigitsInAddsAcrossSeparator': WHATEVER THE INPUT: true; the input reads as it did. -/
def fnDigitsInAddsAcrossSeparatorSpec : ChangeSpec := { name := "fnDigitsInAddsAcrossSeparator", fn := fun _ => fun
  | [d1, d2, d3] => { results := [.lit (.bool true)], args := [d1, d2, d3] }
  | _ => none }
def fnDigitsInAddsAcrossSeparatorRow : OpenClaim := { program := "qxb6001748amods", sum := "bbcaeda5e3afd0e0bb2f6290b7caa2e327af33be030a18028f40603b08580765", func := "example.com/cradle/cradle/zzlaws_internal_jinja_b1.FnDigitsInAddsAcrossSeparator", spec := "fnDigitsInAddsAcrossSeparator", make := .lifted ["publicsums"], apart := false }
def FnDigitsInAddsAcrossSeparatorSaid : Prop := fnDigitsInAddsAcrossSeparatorRow.holds Trym.pinned (OpenSpec.ofChange fnDigitsInAddsAcrossSeparatorSpec)

/-- ITS FALSE NEIGHBOUR: 'it returns false'. Refute it at one input. -/
def fnDigitsInAddsAcrossSeparatorWrong : ChangeSpec := { name := "fnDigitsInAddsAcrossSeparator", fn := fun _ => fun
  | [d1, d2, d3] => { results := [.lit (.bool false)], args := [d1, d2, d3] }
  | _ => none }
def FnDigitsInAddsAcrossSeparatorWrongFalsely : Prop := fnDigitsInAddsAcrossSeparatorRow.holds Trym.pinned (OpenSpec.ofChange fnDigitsInAddsAcrossSeparatorWrong)

end Rows
end Go.Proofs.Qxb6001748aMods
