/-
  DERIVED. GIVEN WITH THE SEED: THE CARDS: each row of Qxb6614306aDoorRows.lean that lists a variable, with what it lists TIED to the program's text (the seventh form; the later family's looks); each row that meets fmt, with fmt's text TOLD by the authors' own Lean function (tested against real Go, not proved from fmt's source: count such statements apart). THE CARD IS WHAT COUNTS. Prove the row's statement (the work); the ties are given (Qxb6614306aDoorTie.lean); close each card by the builder's one call (the guide's Derived/Test/ToyasCard.lean, 'card_holds'). Laid BY PROGRAM, IN A SANDBOX (cutbox-door.mjs). By AI agents, Wed Nov 11 2026. No macro, syntax, notation, axiom, sorry.
-/
import Derived.Test.Qxb6614306aDoorRows
import GoSem.ClaimSeven
namespace Go.Proofs.Qxb6614306aDoor
namespace Rows

/-- THE TIED CARD OF 'zzlaws_root_b1.FnIdxWriterPut32BigEndianInOrder'. -/
def fnIdxWriterPut32BigEndianInOrderCard : Claim7 := { stood := { row := fnIdxWriterPut32BigEndianInOrderRow, standIns := [], harness := (true, "bbe948ab899cd683d75fefe668bfbad9e5a89606a08d49739a5f8ea157627e38"), looks := true }, kinds := [], alts := [], laidByText := true, laidKinds := [.sentinel], laidTests := true, laidLooks := .later }
def FnIdxWriterPut32BigEndianInOrderCardSaid : Prop := Claim7.holds Tryd.pinned (.plain (OpenSpec.ofChange fnIdxWriterPut32BigEndianInOrderSpec)) fnIdxWriterPut32BigEndianInOrderCard

/-- THE TIED CARD OF 'zzlaws_root_b1.FnIdxWriterPut32PairsAgreeWithPut64'. -/
def fnIdxWriterPut32PairsAgreeWithPut64Card : Claim7 := { stood := { row := fnIdxWriterPut32PairsAgreeWithPut64Row, standIns := [], harness := (true, "bbe948ab899cd683d75fefe668bfbad9e5a89606a08d49739a5f8ea157627e38"), looks := true }, kinds := [], alts := [], laidByText := true, laidKinds := [.sentinel], laidTests := true, laidLooks := .later }
def FnIdxWriterPut32PairsAgreeWithPut64CardSaid : Prop := Claim7.holds Tryd.pinned (.plain (OpenSpec.ofChange fnIdxWriterPut32PairsAgreeWithPut64Spec)) fnIdxWriterPut32PairsAgreeWithPut64Card
end Rows
end Go.Proofs.Qxb6614306aDoor
