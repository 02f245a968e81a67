/-
  DERIVED. GIVEN WITH THE SEED: THE CARDS: each row of Qxb6602136aDoorRows.lean that lists a variable, with what it lists TIED to the program's text (the seventh form; the later family's looks); each row that meets fmt, with fmt's text TOLD by the authors' own Lean function (tested against real Go, not proved from fmt's source: count such statements apart). THE CARD IS WHAT COUNTS. Prove the row's statement (the work); the ties are given (Qxb6602136aDoorTie.lean); close each card by the builder's one call (the guide's Derived/Test/ToyasCard.lean, 'card_holds'). Laid BY PROGRAM, IN A SANDBOX (cutbox-door.mjs). By AI agents, Wed Nov 11 2026. No macro, syntax, notation, axiom, sorry.
-/
import Derived.Test.Qxb6602136aDoorRows
import GoSem.ClaimSeven
namespace Go.Proofs.Qxb6602136aDoor
namespace Rows

/-- THE TIED CARD OF 'zzlaws_pkg_storage_b1.FnBaseAfterMatchesDecimalModel'. -/
def fnBaseAfterMatchesDecimalModelCard : Claim7 := { stood := { row := fnBaseAfterMatchesDecimalModelRow, standIns := [], harness := (true, "189b0c03ff8a3e2f22d56d42a12632cb32e959b7fb87fadb8073dfb6a0d17cca"), looks := true }, kinds := [], alts := [], laidByText := true, laidKinds := [.data, .data, .data, .sentinel, .sentinel], laidTests := true, laidLooks := .later }
def FnBaseAfterMatchesDecimalModelCardSaid : Prop := Claim7.holds Tryd.pinned (.plain (OpenSpec.ofChange fnBaseAfterMatchesDecimalModelSpec)) fnBaseAfterMatchesDecimalModelCard

/-- THE TIED CARD OF 'zzlaws_pkg_storage_b1.FnBaseAfterReadsBackDecimal'. -/
def fnBaseAfterReadsBackDecimalCard : Claim7 := { stood := { row := fnBaseAfterReadsBackDecimalRow, standIns := [], harness := (true, "189b0c03ff8a3e2f22d56d42a12632cb32e959b7fb87fadb8073dfb6a0d17cca"), looks := true }, kinds := [], alts := [], laidByText := true, laidKinds := [.data, .data, .data, .sentinel, .sentinel], laidTests := true, laidLooks := .later }
def FnBaseAfterReadsBackDecimalCardSaid : Prop := Claim7.holds Tryd.pinned (.plain (OpenSpec.ofChange fnBaseAfterReadsBackDecimalSpec)) fnBaseAfterReadsBackDecimalCard

/-- THE TIED CARD OF 'zzlaws_pkg_storage_b1.FnLogFilesMatchesModel'. -/
def fnLogFilesMatchesModelCard : Claim7 := { stood := { row := fnLogFilesMatchesModelRow, standIns := [], harness := (true, "189b0c03ff8a3e2f22d56d42a12632cb32e959b7fb87fadb8073dfb6a0d17cca"), looks := true }, kinds := [], alts := [], laidByText := true, laidKinds := [.data, .data, .data, .sentinel, .sentinel], laidTests := true, laidLooks := .later }
def FnLogFilesMatchesModelCardSaid : Prop := Claim7.holds Tryd.pinned (.plain (OpenSpec.ofChange fnLogFilesMatchesModelSpec)) fnLogFilesMatchesModelCard

/-- THE TIED CARD OF 'zzlaws_pkg_storage_b1.FnLogFilesSeesWhatAsideOrderSetsAside'. -/
def fnLogFilesSeesWhatAsideOrderSetsAsideCard : Claim7 := { stood := { row := fnLogFilesSeesWhatAsideOrderSetsAsideRow, standIns := [], harness := (true, "189b0c03ff8a3e2f22d56d42a12632cb32e959b7fb87fadb8073dfb6a0d17cca"), looks := true }, kinds := [], alts := [], laidByText := true, laidKinds := [.data, .data, .data, .sentinel, .sentinel], laidTests := true, laidLooks := .later }
def FnLogFilesSeesWhatAsideOrderSetsAsideCardSaid : Prop := Claim7.holds Tryd.pinned (.plain (OpenSpec.ofChange fnLogFilesSeesWhatAsideOrderSetsAsideSpec)) fnLogFilesSeesWhatAsideOrderSetsAsideCard

/-- THE TIED CARD OF 'zzlaws_pkg_storage_b1.FnAsideOrderMatchesModel'. -/
def fnAsideOrderMatchesModelCard : Claim7 := { stood := { row := fnAsideOrderMatchesModelRow, standIns := [], harness := (true, "189b0c03ff8a3e2f22d56d42a12632cb32e959b7fb87fadb8073dfb6a0d17cca"), looks := true }, kinds := [], alts := [], laidByText := true, laidKinds := [.data, .data, .data, .sentinel, .sentinel], laidTests := true, laidLooks := .later }
def FnAsideOrderMatchesModelCardSaid : Prop := Claim7.holds Tryd.pinned (.plain (OpenSpec.ofChange fnAsideOrderMatchesModelSpec)) fnAsideOrderMatchesModelCard

/-- THE TIED CARD OF 'zzlaws_pkg_storage_b1.FnAsideOrderIdempotent'. -/
def fnAsideOrderIdempotentCard : Claim7 := { stood := { row := fnAsideOrderIdempotentRow, standIns := [], harness := (true, "189b0c03ff8a3e2f22d56d42a12632cb32e959b7fb87fadb8073dfb6a0d17cca"), looks := true }, kinds := [], alts := [], laidByText := true, laidKinds := [.data, .data, .data, .sentinel, .sentinel], laidTests := true, laidLooks := .later }
def FnAsideOrderIdempotentCardSaid : Prop := Claim7.holds Tryd.pinned (.plain (OpenSpec.ofChange fnAsideOrderIdempotentSpec)) fnAsideOrderIdempotentCard
end Rows
end Go.Proofs.Qxb6602136aDoor
