/-
  DERIVED. GIVEN WITH THE SEED: THE CARDS: each row of YtpgfjbimodnkeaaGreatDoorRows.lean that lists a variable, with what it lists TIED to the program's text (the seventh form; the later family's looks); each row that meets fmt, with fmt's text TOLD by the authors' own Lean function (tested against real Go, not proved from fmt's source: count such statements apart). THE CARD IS WHAT COUNTS. Prove the row's statement (the work); the ties are given (YtpgfjbimodnkeaaGreatDoorTie.lean); close each card by the builder's one call (the guide's Derived/Test/ToyasCard.lean, 'card_holds'). Laid BY PROGRAM, IN A SANDBOX (cutbox-door.mjs). By AI agents, Wed Nov 11 2026. No macro, syntax, notation, axiom, sorry.
-/
import Derived.Test.YtpgfjbimodnkeaaGreatDoorRows
import GoSem.ClaimSeven
namespace Go.Proofs.YtpgfjbimodnkeaaGreatDoor
namespace Rows

/-- THE TIED CARD OF 'laws.FnGjResultEachOf'. -/
def fnGjResultEachOfCard : Claim7 := { stood := { row := fnGjResultEachOfRow, standIns := [], harness := (true, "8b9c496fbe4d17382abc0d2718ccfab891b4798a5aaf0721fdc382d64c84c845"), looks := true }, kinds := [], alts := [], laidByText := true, laidKinds := [.data, .data, .widerDeep, .widerDeep, .data, .data, .data, .data, .data, .sentinel, .sentinel, .data, .pinned, .pinned], laidTests := true, laidLooks := .later }
def FnGjResultEachOfCardSaid : Prop := Claim7.holds Tryz.pinned (.plain (OpenSpec.ofChange fnGjResultEachOfSpec)) fnGjResultEachOfCard

/-- THE TIED CARD OF 'laws.FnGjGroupText'. -/
def fnGjGroupTextCard : Claim7 := { stood := { row := fnGjGroupTextRow, standIns := [], harness := (true, "8b9c496fbe4d17382abc0d2718ccfab891b4798a5aaf0721fdc382d64c84c845"), looks := true }, kinds := [], alts := [], laidByText := true, laidKinds := [.data, .data, .widerDeep, .widerDeep, .data, .data, .data, .data, .data, .sentinel, .sentinel, .data, .pinned, .pinned], laidTests := true, laidLooks := .later }
def FnGjGroupTextCardSaid : Prop := Claim7.holds Tryz.pinned (.plain (OpenSpec.ofChange fnGjGroupTextSpec)) fnGjGroupTextCard

/-- THE TIED CARD OF 'laws.FnGjReverseText'. -/
def fnGjReverseTextCard : Claim7 := { stood := { row := fnGjReverseTextRow, standIns := [], harness := (true, "8b9c496fbe4d17382abc0d2718ccfab891b4798a5aaf0721fdc382d64c84c845"), looks := true }, kinds := [], alts := [], laidByText := true, laidKinds := [.data, .data, .widerDeep, .widerDeep, .data, .data, .data, .data, .data, .sentinel, .sentinel, .data, .pinned, .pinned], laidTests := true, laidLooks := .later }
def FnGjReverseTextCardSaid : Prop := Claim7.holds Tryz.pinned (.plain (OpenSpec.ofChange fnGjReverseTextSpec)) fnGjReverseTextCard

/-- THE TIED CARD OF 'laws.FnGjMap'. -/
def fnGjMapCard : Claim7 := { stood := { row := fnGjMapRow, standIns := [], harness := (true, "8b9c496fbe4d17382abc0d2718ccfab891b4798a5aaf0721fdc382d64c84c845"), looks := true }, kinds := [], alts := [], laidByText := true, laidKinds := [.data, .data, .widerDeep, .widerDeep, .data, .data, .data, .data, .data, .sentinel, .sentinel, .pinned, .pinned], laidTests := true, laidLooks := .later }
def FnGjMapCardSaid : Prop := Claim7.holds Tryz.pinned (.plain (OpenSpec.ofChange fnGjMapSpec)) fnGjMapCard

/-- THE TIED CARD OF 'laws.FnGjValuesSeq'. -/
def fnGjValuesSeqCard : Claim7 := { stood := { row := fnGjValuesSeqRow, standIns := [], harness := (true, "8b9c496fbe4d17382abc0d2718ccfab891b4798a5aaf0721fdc382d64c84c845"), looks := true }, kinds := [], alts := [], laidByText := true, laidKinds := [.data, .data, .widerDeep, .widerDeep, .data, .data, .data, .data, .data, .sentinel, .sentinel, .data, .pinned, .pinned], laidTests := true, laidLooks := .later }
def FnGjValuesSeqCardSaid : Prop := Claim7.holds Tryz.pinned (.plain (OpenSpec.ofChange fnGjValuesSeqSpec)) fnGjValuesSeqCard

/-- THE SECOND FORM's CARD OF 'laws.FnGjResultEachOf'. -/
def fnGjResultEachOfUptoCard : Claim7 := { stood := { row := fnGjResultEachOfUptoRow, standIns := [], harness := (true, "8b9c496fbe4d17382abc0d2718ccfab891b4798a5aaf0721fdc382d64c84c845"), looks := true }, kinds := [], alts := [], laidByText := true, laidKinds := [.data, .data, .widerDeep, .widerDeep, .data, .data, .data, .data, .data, .sentinel, .sentinel, .data, .pinned, .pinned], laidTests := true, laidLooks := .later }
def FnGjResultEachOfUptoCardSaid : Prop := Claim7.holds Tryz.pinned (.plain (OpenSpec.upto fnGjResultEachOfSpec)) fnGjResultEachOfUptoCard

/-- THE SECOND FORM's CARD OF 'laws.FnGjGroupText'. -/
def fnGjGroupTextUptoCard : Claim7 := { stood := { row := fnGjGroupTextUptoRow, standIns := [], harness := (true, "8b9c496fbe4d17382abc0d2718ccfab891b4798a5aaf0721fdc382d64c84c845"), looks := true }, kinds := [], alts := [], laidByText := true, laidKinds := [.data, .data, .widerDeep, .widerDeep, .data, .data, .data, .data, .data, .sentinel, .sentinel, .data, .pinned, .pinned], laidTests := true, laidLooks := .later }
def FnGjGroupTextUptoCardSaid : Prop := Claim7.holds Tryz.pinned (.plain (OpenSpec.upto fnGjGroupTextSpec)) fnGjGroupTextUptoCard

/-- THE SECOND FORM's CARD OF 'laws.FnGjReverseText'. -/
def fnGjReverseTextUptoCard : Claim7 := { stood := { row := fnGjReverseTextUptoRow, standIns := [], harness := (true, "8b9c496fbe4d17382abc0d2718ccfab891b4798a5aaf0721fdc382d64c84c845"), looks := true }, kinds := [], alts := [], laidByText := true, laidKinds := [.data, .data, .widerDeep, .widerDeep, .data, .data, .data, .data, .data, .sentinel, .sentinel, .data, .pinned, .pinned], laidTests := true, laidLooks := .later }
def FnGjReverseTextUptoCardSaid : Prop := Claim7.holds Tryz.pinned (.plain (OpenSpec.upto fnGjReverseTextSpec)) fnGjReverseTextUptoCard

/-- THE SECOND FORM's CARD OF 'laws.FnGjMap'. -/
def fnGjMapUptoCard : Claim7 := { stood := { row := fnGjMapUptoRow, standIns := [], harness := (true, "8b9c496fbe4d17382abc0d2718ccfab891b4798a5aaf0721fdc382d64c84c845"), looks := true }, kinds := [], alts := [], laidByText := true, laidKinds := [.data, .data, .widerDeep, .widerDeep, .data, .data, .data, .data, .data, .sentinel, .sentinel, .pinned, .pinned], laidTests := true, laidLooks := .later }
def FnGjMapUptoCardSaid : Prop := Claim7.holds Tryz.pinned (.plain (OpenSpec.upto fnGjMapSpec)) fnGjMapUptoCard

/-- THE SECOND FORM's CARD OF 'laws.FnGjValuesSeq'. -/
def fnGjValuesSeqUptoCard : Claim7 := { stood := { row := fnGjValuesSeqUptoRow, standIns := [], harness := (true, "8b9c496fbe4d17382abc0d2718ccfab891b4798a5aaf0721fdc382d64c84c845"), looks := true }, kinds := [], alts := [], laidByText := true, laidKinds := [.data, .data, .widerDeep, .widerDeep, .data, .data, .data, .data, .data, .sentinel, .sentinel, .data, .pinned, .pinned], laidTests := true, laidLooks := .later }
def FnGjValuesSeqUptoCardSaid : Prop := Claim7.holds Tryz.pinned (.plain (OpenSpec.upto fnGjValuesSeqSpec)) fnGjValuesSeqUptoCard
end Rows
end Go.Proofs.YtpgfjbimodnkeaaGreatDoor
