/-
  No cell of these rows narrows 'for every input' (looked for: loops, veiled, ifaces, maps, wideKeys, modest, calm, conditions, laid).
  DERIVED. THE GIVEN ROWS OF THIS SEAT. 4 by the template 'for every input the law returns true; each argument reads behind the call as it read before'; 0 by the template 'total and deterministic' (their statements: Qxb6605598aTotals.lean).
  GIVEN WITH THE SEED: the statements are not yours to turn. If you find one false, say at which input.
  Laid BY PROGRAM, IN A SANDBOX (cutbox-rows.mjs): the forced cells as the released guide's own fill.sh prints them over the translation fb4b2463fe5abd24… (all of the seat's roots in one cut). By AI agents, Wed Nov 11 2026. No macro, syntax, notation, axiom, sorry.
-/
import Derived.Test.Qxb6605598aChecked
import GoSem.Claim
import GoSem.ClaimJoined
import GoSem.ClaimMapViews
import Derived.JoinedTies
import Derived.KernelRfl
namespace Go.Proofs.Qxb6605598a
/- THE CELL 'sum', in the pinned program and in every row, IS THE sha256 OF THE DUMP (.gsa) THAT Qxb6605598aProg.lean LOADS. Nothing in Lean hashes anything: it is a label: what it is worth is what the hold of that sum in a sandbox is worth. -/
noncomputable def Try.pinned : Pinned := { name := "qxb6605598a", sum := "fb4b2463fe5abd24a502a0316d453c1d4255cbde11a83dc89bbd38031bd5b4ae", checked := Try.checked }
namespace Rows
def none {H : Type} : Left H := { results := [], args := [] }

/-- 'zzlaws_drive_b1.FnEncodeSignedParsesBack': WHATEVER THE INPUT: true; the input reads as it did. -/
def fnEncodeSignedParsesBackSpec : ChangeSpec := { name := "fnEncodeSignedParsesBack", fn := fun _ => fun
  | [d1, d2] => { results := [.lit (.bool true)], args := [d1, d2] }
  | _ => none }
def fnEncodeSignedParsesBackRow : OpenClaim := { program := "qxb6605598a", sum := "fb4b2463fe5abd24a502a0316d453c1d4255cbde11a83dc89bbd38031bd5b4ae", func := "example.com/cairnstore/cairnstore/zzlaws_drive_b1.FnEncodeSignedParsesBack", spec := "fnEncodeSignedParsesBack", apart := false }
def FnEncodeSignedParsesBackSaid : Prop := fnEncodeSignedParsesBackRow.holds Try.pinned (OpenSpec.ofChange fnEncodeSignedParsesBackSpec)

/-- ITS FALSE NEIGHBOUR: 'it returns false'. Refute it at one input. -/
def fnEncodeSignedParsesBackWrong : ChangeSpec := { name := "fnEncodeSignedParsesBack", fn := fun _ => fun
  | [d1, d2] => { results := [.lit (.bool false)], args := [d1, d2] }
  | _ => none }
def FnEncodeSignedParsesBackWrongFalsely : Prop := fnEncodeSignedParsesBackRow.holds Try.pinned (OpenSpec.ofChange fnEncodeSignedParsesBackWrong)

/-- 'zzlaws_drive_b1.FnEncodeSignedInjective': WHATEVER THE INPUT: true; the input reads as it did. -/
def fnEncodeSignedInjectiveSpec : ChangeSpec := { name := "fnEncodeSignedInjective", fn := fun _ => fun
  | [d1, d2, d3, d4] => { results := [.lit (.bool true)], args := [d1, d2, d3, d4] }
  | _ => none }
def fnEncodeSignedInjectiveRow : OpenClaim := { program := "qxb6605598a", sum := "fb4b2463fe5abd24a502a0316d453c1d4255cbde11a83dc89bbd38031bd5b4ae", func := "example.com/cairnstore/cairnstore/zzlaws_drive_b1.FnEncodeSignedInjective", spec := "fnEncodeSignedInjective", apart := false }
def FnEncodeSignedInjectiveSaid : Prop := fnEncodeSignedInjectiveRow.holds Try.pinned (OpenSpec.ofChange fnEncodeSignedInjectiveSpec)

/-- ITS FALSE NEIGHBOUR: 'it returns false'. Refute it at one input. -/
def fnEncodeSignedInjectiveWrong : ChangeSpec := { name := "fnEncodeSignedInjective", fn := fun _ => fun
  | [d1, d2, d3, d4] => { results := [.lit (.bool false)], args := [d1, d2, d3, d4] }
  | _ => none }
def FnEncodeSignedInjectiveWrongFalsely : Prop := fnEncodeSignedInjectiveRow.holds Try.pinned (OpenSpec.ofChange fnEncodeSignedInjectiveWrong)

/-- 'zzlaws_drive_b1.FnConsentEncodeParsesBack': WHATEVER THE INPUT: true; the input reads as it did. -/
def fnConsentEncodeParsesBackSpec : ChangeSpec := { name := "fnConsentEncodeParsesBack", fn := fun _ => fun
  | [d1, d2, d3, d4, d5, d6] => { results := [.lit (.bool true)], args := [d1, d2, d3, d4, d5, d6] }
  | _ => none }
def fnConsentEncodeParsesBackRow : OpenClaim := { program := "qxb6605598a", sum := "fb4b2463fe5abd24a502a0316d453c1d4255cbde11a83dc89bbd38031bd5b4ae", func := "example.com/cairnstore/cairnstore/zzlaws_drive_b1.FnConsentEncodeParsesBack", spec := "fnConsentEncodeParsesBack", apart := false }
def FnConsentEncodeParsesBackSaid : Prop := fnConsentEncodeParsesBackRow.holds Try.pinned (OpenSpec.ofChange fnConsentEncodeParsesBackSpec)

/-- ITS FALSE NEIGHBOUR: 'it returns false'. Refute it at one input. -/
def fnConsentEncodeParsesBackWrong : ChangeSpec := { name := "fnConsentEncodeParsesBack", fn := fun _ => fun
  | [d1, d2, d3, d4, d5, d6] => { results := [.lit (.bool false)], args := [d1, d2, d3, d4, d5, d6] }
  | _ => none }
def FnConsentEncodeParsesBackWrongFalsely : Prop := fnConsentEncodeParsesBackRow.holds Try.pinned (OpenSpec.ofChange fnConsentEncodeParsesBackWrong)

/-- 'zzlaws_drive_b1.FnConsentEncodeInjective': WHATEVER THE INPUT: true; the input reads as it did. -/
def fnConsentEncodeInjectiveSpec : ChangeSpec := { name := "fnConsentEncodeInjective", fn := fun _ => fun
  | [d1, d2, d3, d4, d5, d6, d7, d8, d9, d10, d11, d12] => { results := [.lit (.bool true)], args := [d1, d2, d3, d4, d5, d6, d7, d8, d9, d10, d11, d12] }
  | _ => none }
def fnConsentEncodeInjectiveRow : OpenClaim := { program := "qxb6605598a", sum := "fb4b2463fe5abd24a502a0316d453c1d4255cbde11a83dc89bbd38031bd5b4ae", func := "example.com/cairnstore/cairnstore/zzlaws_drive_b1.FnConsentEncodeInjective", spec := "fnConsentEncodeInjective", apart := false }
def FnConsentEncodeInjectiveSaid : Prop := fnConsentEncodeInjectiveRow.holds Try.pinned (OpenSpec.ofChange fnConsentEncodeInjectiveSpec)

/-- ITS FALSE NEIGHBOUR: 'it returns false'. Refute it at one input. -/
def fnConsentEncodeInjectiveWrong : ChangeSpec := { name := "fnConsentEncodeInjective", fn := fun _ => fun
  | [d1, d2, d3, d4, d5, d6, d7, d8, d9, d10, d11, d12] => { results := [.lit (.bool false)], args := [d1, d2, d3, d4, d5, d6, d7, d8, d9, d10, d11, d12] }
  | _ => none }
def FnConsentEncodeInjectiveWrongFalsely : Prop := fnConsentEncodeInjectiveRow.holds Try.pinned (OpenSpec.ofChange fnConsentEncodeInjectiveWrong)

end Rows
end Go.Proofs.Qxb6605598a
