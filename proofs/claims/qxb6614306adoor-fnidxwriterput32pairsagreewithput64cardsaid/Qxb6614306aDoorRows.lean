/-
  NARROWER THAN 'FOR EVERY INPUT', by the rows' own cells (each row's printed sentence says how): FnIdxWriterPut32BigEndianInOrder: laid · FnIdxWriterPut32PairsAgreeWithPut64: laid.
  DERIVED. THE GIVEN ROWS OF THIS SEAT. 2 by the template 'for every input the law returns true; each argument reads behind the call as it read before'; 0 by the template 'total and deterministic' (their statements: Qxb6614306aDoorTotals.lean).
  GIVEN WITH THE SEED: the statements are not yours to turn. If you find one false, say at which input.
  Laid BY PROGRAM, IN A SANDBOX (cutbox-rows.mjs): the forced cells as the released guide's own fill.sh prints them over the translation 7f5636299d7fde0f… (all of the seat's roots in one cut). By AI agents, Wed Nov 11 2026. No macro, syntax, notation, axiom, sorry.
-/
import Derived.Test.Qxb6614306aDoorChecked
import GoSem.Claim
import GoSem.ClaimJoined
import GoSem.ClaimMapViews
import Derived.JoinedTies
import Derived.KernelRfl
namespace Go.Proofs.Qxb6614306aDoor
/- THE CELL 'sum', in the pinned program and in every row, IS THE sha256 OF THE DUMP (.gsa) THAT Qxb6614306aDoorProg.lean LOADS. Nothing in Lean hashes anything: it is a label: what it is worth is what the hold of that sum in a sandbox is worth. -/
noncomputable def Tryd.pinned : Pinned := { name := "qxb6614306adoor", sum := "7f5636299d7fde0f611f648b736e807fb94edc1a0dc0a994e9f272c4add388f1", checked := Tryd.checked }
namespace Rows
def none {H : Type} : Left H := { results := [], args := [] }

/- WHAT THE LISTED PACKAGE-LEVEL VARIABLES READ AS WHEN THE CALL BEGINS. Each datum BY PROGRAM (the guide's laid-datum.mjs) off the statement by which the dump's own 'gosem.cut.vars' lays the variable. In a bare row this is a premise. The card (Qxb6614306aDoorCards.lean) ties it to the program's text. -/
def laid_io_ErrShortWrite {H : Type} : DataW H := .iface "*errors.errorString" (.ptr (.agg [.lit (.string [115, 104, 111, 114, 116, 32, 119, 114, 105, 116, 101])]))

/-- 'zzlaws_root_b1.FnIdxWriterPut32BigEndianInOrder': WHATEVER THE INPUT: true; the input reads as it did. -/
def fnIdxWriterPut32BigEndianInOrderSpec : ChangeSpec := { name := "fnIdxWriterPut32BigEndianInOrder", fn := fun _ => fun
  | [d] => { results := [.lit (.bool true)], args := [d] }
  | _ => none }
def fnIdxWriterPut32BigEndianInOrderRow : OpenClaim := { program := "qxb6614306adoor", sum := "7f5636299d7fde0f611f648b736e807fb94edc1a0dc0a994e9f272c4add388f1", func := "example.com/packwright/packwright/zzlaws_root_b1.FnIdxWriterPut32BigEndianInOrder", spec := "fnIdxWriterPut32BigEndianInOrder", unfollowed := true, recurses := true, named := ["encoding/binary.BigEndian", "io.ErrShortWrite"], apart := false, laid := [("io.ErrShortWrite", laid_io_ErrShortWrite)] }
def FnIdxWriterPut32BigEndianInOrderSaid : Prop := fnIdxWriterPut32BigEndianInOrderRow.holds Tryd.pinned (OpenSpec.ofChange fnIdxWriterPut32BigEndianInOrderSpec)

/-- ITS FALSE NEIGHBOUR: 'it returns false'. Refute it at one input. -/
def fnIdxWriterPut32BigEndianInOrderWrong : ChangeSpec := { name := "fnIdxWriterPut32BigEndianInOrder", fn := fun _ => fun
  | [d] => { results := [.lit (.bool false)], args := [d] }
  | _ => none }
def FnIdxWriterPut32BigEndianInOrderWrongFalsely : Prop := fnIdxWriterPut32BigEndianInOrderRow.holds Tryd.pinned (OpenSpec.ofChange fnIdxWriterPut32BigEndianInOrderWrong)

/-- 'zzlaws_root_b1.FnIdxWriterPut32PairsAgreeWithPut64': WHATEVER THE INPUT: true; the input reads as it did. -/
def fnIdxWriterPut32PairsAgreeWithPut64Spec : ChangeSpec := { name := "fnIdxWriterPut32PairsAgreeWithPut64", fn := fun _ => fun
  | [d] => { results := [.lit (.bool true)], args := [d] }
  | _ => none }
def fnIdxWriterPut32PairsAgreeWithPut64Row : OpenClaim := { program := "qxb6614306adoor", sum := "7f5636299d7fde0f611f648b736e807fb94edc1a0dc0a994e9f272c4add388f1", func := "example.com/packwright/packwright/zzlaws_root_b1.FnIdxWriterPut32PairsAgreeWithPut64", spec := "fnIdxWriterPut32PairsAgreeWithPut64", unfollowed := true, recurses := true, named := ["encoding/binary.BigEndian", "io.ErrShortWrite"], apart := false, laid := [("io.ErrShortWrite", laid_io_ErrShortWrite)] }
def FnIdxWriterPut32PairsAgreeWithPut64Said : Prop := fnIdxWriterPut32PairsAgreeWithPut64Row.holds Tryd.pinned (OpenSpec.ofChange fnIdxWriterPut32PairsAgreeWithPut64Spec)

/-- ITS FALSE NEIGHBOUR: 'it returns false'. Refute it at one input. -/
def fnIdxWriterPut32PairsAgreeWithPut64Wrong : ChangeSpec := { name := "fnIdxWriterPut32PairsAgreeWithPut64", fn := fun _ => fun
  | [d] => { results := [.lit (.bool false)], args := [d] }
  | _ => none }
def FnIdxWriterPut32PairsAgreeWithPut64WrongFalsely : Prop := fnIdxWriterPut32PairsAgreeWithPut64Row.holds Tryd.pinned (OpenSpec.ofChange fnIdxWriterPut32PairsAgreeWithPut64Wrong)

end Rows
end Go.Proofs.Qxb6614306aDoor
