/-
  DERIVED. GIVEN WITH THE SEED: THE CARDS: each row of YtigjokkakcmmdaaGreatDoorRows.lean that lists a variable, with what it lists TIED to the program's text (the seventh form; the later family's looks); each row that meets fmt, with fmt's text TOLD by the authors' own Lean function (tested against real Go, not proved from fmt's source: count such statements apart). THE CARD IS WHAT COUNTS. Prove the row's statement (the work); the ties are given (YtigjokkakcmmdaaGreatDoorTie.lean); close each card by the builder's one call (the guide's Derived/Test/ToyasCard.lean, 'card_holds'). Laid BY PROGRAM, IN A SANDBOX (cutbox-door.mjs). By AI agents, Wed Nov 11 2026. No macro, syntax, notation, axiom, sorry.
-/
import Derived.Test.YtigjokkakcmmdaaGreatDoorRows
import GoSem.ClaimSeven
namespace Go.Proofs.YtigjokkakcmmdaaGreatDoor
namespace Rows

/-- THE TIED CARD OF 'laws.FnPfCount'. -/
def fnPfCountCard : Claim7 := { stood := { row := fnPfCountRow, standIns := [], harness := (true, "7e5418ed36dd4c4b9dbce0cf66b66aa35edfe004532bf0393ccec110cfbc0f64"), looks := false }, kinds := [], alts := [], laidByText := true, laidKinds := [.data, .data, .data, .data, .data, .data, .data, .data, .data, .pinned, .pinned], laidTests := true, laidLooks := .later }
def FnPfCountCardSaid : Prop := Claim7.holds Tryz.pinned (.plain (OpenSpec.ofChange fnPfCountSpec)) fnPfCountCard

/-- THE TIED CARD OF 'laws.FnPfTags'. -/
def fnPfTagsCard : Claim7 := { stood := { row := fnPfTagsRow, standIns := [], harness := (true, "7e5418ed36dd4c4b9dbce0cf66b66aa35edfe004532bf0393ccec110cfbc0f64"), looks := false }, kinds := [], alts := [], laidByText := true, laidKinds := [.data, .data, .data, .data, .data, .data, .data, .data, .data, .pinned, .pinned], laidTests := true, laidLooks := .later }
def FnPfTagsCardSaid : Prop := Claim7.holds Tryz.pinned (.plain (OpenSpec.ofChange fnPfTagsSpec)) fnPfTagsCard

/-- THE TIED CARD OF 'laws.FnPfDivide'. -/
def fnPfDivideCard : Claim7 := { stood := { row := fnPfDivideRow, standIns := [], harness := (true, "7e5418ed36dd4c4b9dbce0cf66b66aa35edfe004532bf0393ccec110cfbc0f64"), looks := false }, kinds := [], alts := [], laidByText := true, laidKinds := [.data, .data, .data, .data, .data, .data, .data, .data, .data, .pinned, .pinned], laidTests := true, laidLooks := .later }
def FnPfDivideCardSaid : Prop := Claim7.holds Tryz.pinned (.plain (OpenSpec.ofChange fnPfDivideSpec)) fnPfDivideCard

/-- THE TIED CARD OF 'laws.FnPfMirror'. -/
def fnPfMirrorCard : Claim7 := { stood := { row := fnPfMirrorRow, standIns := [], harness := (true, "7e5418ed36dd4c4b9dbce0cf66b66aa35edfe004532bf0393ccec110cfbc0f64"), looks := false }, kinds := [], alts := [], laidByText := true, laidKinds := [.data, .data, .data, .data, .data, .data, .data, .data, .data, .pinned, .pinned], laidTests := true, laidLooks := .later }
def FnPfMirrorCardSaid : Prop := Claim7.holds Tryz.pinned (.plain (OpenSpec.ofChange fnPfMirrorSpec)) fnPfMirrorCard

/-- THE SECOND FORM's CARD OF 'laws.FnPfCount'. -/
def fnPfCountUptoCard : Claim7 := { stood := { row := fnPfCountUptoRow, standIns := [], harness := (true, "7e5418ed36dd4c4b9dbce0cf66b66aa35edfe004532bf0393ccec110cfbc0f64"), looks := false }, kinds := [], alts := [], laidByText := true, laidKinds := [.data, .data, .data, .data, .data, .data, .data, .data, .data, .pinned, .pinned], laidTests := true, laidLooks := .later }
def FnPfCountUptoCardSaid : Prop := Claim7.holds Tryz.pinned (.plain (OpenSpec.upto fnPfCountSpec)) fnPfCountUptoCard

/-- THE SECOND FORM's CARD OF 'laws.FnPfTags'. -/
def fnPfTagsUptoCard : Claim7 := { stood := { row := fnPfTagsUptoRow, standIns := [], harness := (true, "7e5418ed36dd4c4b9dbce0cf66b66aa35edfe004532bf0393ccec110cfbc0f64"), looks := false }, kinds := [], alts := [], laidByText := true, laidKinds := [.data, .data, .data, .data, .data, .data, .data, .data, .data, .pinned, .pinned], laidTests := true, laidLooks := .later }
def FnPfTagsUptoCardSaid : Prop := Claim7.holds Tryz.pinned (.plain (OpenSpec.upto fnPfTagsSpec)) fnPfTagsUptoCard

/-- THE SECOND FORM's CARD OF 'laws.FnPfDivide'. -/
def fnPfDivideUptoCard : Claim7 := { stood := { row := fnPfDivideUptoRow, standIns := [], harness := (true, "7e5418ed36dd4c4b9dbce0cf66b66aa35edfe004532bf0393ccec110cfbc0f64"), looks := false }, kinds := [], alts := [], laidByText := true, laidKinds := [.data, .data, .data, .data, .data, .data, .data, .data, .data, .pinned, .pinned], laidTests := true, laidLooks := .later }
def FnPfDivideUptoCardSaid : Prop := Claim7.holds Tryz.pinned (.plain (OpenSpec.upto fnPfDivideSpec)) fnPfDivideUptoCard

/-- THE SECOND FORM's CARD OF 'laws.FnPfMirror'. -/
def fnPfMirrorUptoCard : Claim7 := { stood := { row := fnPfMirrorUptoRow, standIns := [], harness := (true, "7e5418ed36dd4c4b9dbce0cf66b66aa35edfe004532bf0393ccec110cfbc0f64"), looks := false }, kinds := [], alts := [], laidByText := true, laidKinds := [.data, .data, .data, .data, .data, .data, .data, .data, .data, .pinned, .pinned], laidTests := true, laidLooks := .later }
def FnPfMirrorUptoCardSaid : Prop := Claim7.holds Tryz.pinned (.plain (OpenSpec.upto fnPfMirrorSpec)) fnPfMirrorUptoCard
end Rows
end Go.Proofs.YtigjokkakcmmdaaGreatDoor
