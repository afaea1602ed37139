/-
  DERIVED. GIVEN WITH THE SEED: THE CARDS: each row of YtkkplbfbhmlnoaaDoorRows.lean that lists a variable, with what it lists TIED to the program's text (the seventh form; the later family's looks); each row that meets fmt, with fmt's text TOLD by the authors' own Lean function (tested against real Go, not proved from fmt's source: count such statements apart). THE CARD IS WHAT COUNTS. Prove the row's statement (the work); the ties are given (YtkkplbfbhmlnoaaDoorTie.lean); close each card by the builder's one call (the guide's Derived/Test/ToyasCard.lean, 'card_holds'). Laid BY PROGRAM, IN A SANDBOX (cutbox-door.mjs). By AI agents, Wed Nov 11 2026. No macro, syntax, notation, axiom, sorry.
-/
import Derived.Test.YtkkplbfbhmlnoaaDoorRows
import GoSem.ClaimSeven
namespace Go.Proofs.YtkkplbfbhmlnoaaDoor
namespace Rows

/-- THE TIED CARD OF 'laws.FnQuantization'. -/
def fnQuantizationCard : Claim7 := { stood := { row := fnQuantizationRow, standIns := [], harness := (true, "59e8a0b3895689f0631da5d7d5696bdb3a4976fe9b5160eb673e9d28a676c27b"), looks := true }, kinds := [], alts := [], laidByText := true, laidKinds := [.handle, .sentinel, .sentinel], laidTests := true, laidLooks := .later }
def FnQuantizationCardSaid : Prop := Claim7.holds Tryd.pinned (.plain (OpenSpec.ofChange fnQuantizationSpec)) fnQuantizationCard

/-- THE TIED CARD OF 'laws.FnEmitRead'. -/
def fnEmitReadCard : Claim7 := { stood := { row := fnEmitReadRow, standIns := [], harness := (true, "59e8a0b3895689f0631da5d7d5696bdb3a4976fe9b5160eb673e9d28a676c27b"), looks := true }, kinds := [], alts := [], laidByText := true, laidKinds := [.handle, .sentinel, .sentinel], laidTests := true, laidLooks := .later }
def FnEmitReadCardSaid : Prop := Claim7.holds Tryd.pinned (.plain (OpenSpec.ofChange fnEmitReadSpec)) fnEmitReadCard

/-- THE TIED CARD OF 'laws.FnBadTables'. -/
def fnBadTablesCard : Claim7 := { stood := { row := fnBadTablesRow, standIns := [], harness := (true, "59e8a0b3895689f0631da5d7d5696bdb3a4976fe9b5160eb673e9d28a676c27b"), looks := true }, kinds := [], alts := [], laidByText := true, laidKinds := [.handle, .sentinel, .sentinel], laidTests := true, laidLooks := .later }
def FnBadTablesCardSaid : Prop := Claim7.holds Tryd.pinned (.plain (OpenSpec.ofChange fnBadTablesSpec)) fnBadTablesCard

/-- THE TIED CARD OF 'laws.FnBits'. -/
def fnBitsCard : Claim7 := { stood := { row := fnBitsRow, standIns := [], harness := (true, "59e8a0b3895689f0631da5d7d5696bdb3a4976fe9b5160eb673e9d28a676c27b"), looks := true }, kinds := [], alts := [], laidByText := true, laidKinds := [.handle, .sentinel, .sentinel], laidTests := true, laidLooks := .later }
def FnBitsCardSaid : Prop := Claim7.holds Tryd.pinned (.plain (OpenSpec.ofChange fnBitsSpec)) fnBitsCard

/-- THE TIED CARD OF 'laws.FnNumbers'. -/
def fnNumbersCard : Claim7 := { stood := { row := fnNumbersRow, standIns := [], harness := (true, "59e8a0b3895689f0631da5d7d5696bdb3a4976fe9b5160eb673e9d28a676c27b"), looks := true }, kinds := [], alts := [], laidByText := true, laidKinds := [.handle, .sentinel, .sentinel], laidTests := true, laidLooks := .later }
def FnNumbersCardSaid : Prop := Claim7.holds Tryd.pinned (.plain (OpenSpec.ofChange fnNumbersSpec)) fnNumbersCard

/-- THE SECOND FORM's CARD OF 'laws.FnQuantization'. -/
def fnQuantizationUptoCard : Claim7 := { stood := { row := fnQuantizationUptoRow, standIns := [], harness := (true, "59e8a0b3895689f0631da5d7d5696bdb3a4976fe9b5160eb673e9d28a676c27b"), looks := true }, kinds := [], alts := [], laidByText := true, laidKinds := [.handle, .sentinel, .sentinel], laidTests := true, laidLooks := .later }
def FnQuantizationUptoCardSaid : Prop := Claim7.holds Tryd.pinned (.plain (OpenSpec.upto fnQuantizationSpec)) fnQuantizationUptoCard

/-- THE SECOND FORM's CARD OF 'laws.FnEmitRead'. -/
def fnEmitReadUptoCard : Claim7 := { stood := { row := fnEmitReadUptoRow, standIns := [], harness := (true, "59e8a0b3895689f0631da5d7d5696bdb3a4976fe9b5160eb673e9d28a676c27b"), looks := true }, kinds := [], alts := [], laidByText := true, laidKinds := [.handle, .sentinel, .sentinel], laidTests := true, laidLooks := .later }
def FnEmitReadUptoCardSaid : Prop := Claim7.holds Tryd.pinned (.plain (OpenSpec.upto fnEmitReadSpec)) fnEmitReadUptoCard

/-- THE SECOND FORM's CARD OF 'laws.FnBadTables'. -/
def fnBadTablesUptoCard : Claim7 := { stood := { row := fnBadTablesUptoRow, standIns := [], harness := (true, "59e8a0b3895689f0631da5d7d5696bdb3a4976fe9b5160eb673e9d28a676c27b"), looks := true }, kinds := [], alts := [], laidByText := true, laidKinds := [.handle, .sentinel, .sentinel], laidTests := true, laidLooks := .later }
def FnBadTablesUptoCardSaid : Prop := Claim7.holds Tryd.pinned (.plain (OpenSpec.upto fnBadTablesSpec)) fnBadTablesUptoCard

/-- THE SECOND FORM's CARD OF 'laws.FnBits'. -/
def fnBitsUptoCard : Claim7 := { stood := { row := fnBitsUptoRow, standIns := [], harness := (true, "59e8a0b3895689f0631da5d7d5696bdb3a4976fe9b5160eb673e9d28a676c27b"), looks := true }, kinds := [], alts := [], laidByText := true, laidKinds := [.handle, .sentinel, .sentinel], laidTests := true, laidLooks := .later }
def FnBitsUptoCardSaid : Prop := Claim7.holds Tryd.pinned (.plain (OpenSpec.upto fnBitsSpec)) fnBitsUptoCard

/-- THE SECOND FORM's CARD OF 'laws.FnNumbers'. -/
def fnNumbersUptoCard : Claim7 := { stood := { row := fnNumbersUptoRow, standIns := [], harness := (true, "59e8a0b3895689f0631da5d7d5696bdb3a4976fe9b5160eb673e9d28a676c27b"), looks := true }, kinds := [], alts := [], laidByText := true, laidKinds := [.handle, .sentinel, .sentinel], laidTests := true, laidLooks := .later }
def FnNumbersUptoCardSaid : Prop := Claim7.holds Tryd.pinned (.plain (OpenSpec.upto fnNumbersSpec)) fnNumbersUptoCard
end Rows
end Go.Proofs.YtkkplbfbhmlnoaaDoor
