/-
  DERIVED. GIVEN WITH THE SEED: THE CARDS: each row of YtgcjaijakbejjaaFmtRows.lean that lists a variable, with what it lists TIED to the program's text (the seventh form; the later family's looks); each row that meets fmt, with fmt's text TOLD by the authors' own Lean function (tested against real Go, not proved from fmt's source: count such statements apart). THE CARD IS WHAT COUNTS. Prove the row's statement (the work); the ties are given (YtgcjaijakbejjaaFmtTie.lean); close each card by the builder's one call (the guide's Derived/Test/ToyasCard.lean, 'card_holds'). Laid BY PROGRAM, IN A SANDBOX (cutbox-door.mjs). By AI agents, Wed Nov 11 2026. No macro, syntax, notation, axiom, sorry.
-/
import Derived.Test.YtgcjaijakbejjaaFmtRows
import GoSem.ClaimSeven
namespace Go.Proofs.YtgcjaijakbejjaaFmt
namespace Rows

/-- THE TOLD AND TIED CARD OF 'n010_119.FnArithmTokenLongestMatch'. -/
def fnArithmTokenLongestMatchCard : Claim7 := { stood := { row := fnArithmTokenLongestMatchRow, standIns := [], harness := (true, "29b67ab981613937752e80c4c6d27b5ac02ec08f59858d86a0942ddb3ba87b11"), looks := true }, told := true, laidByText := true, laidKinds := [.data, .sentinel, .pinned], laidTests := true, laidLooks := .later, goes := false }
def FnArithmTokenLongestMatchToldSaid : Prop := Claim7.holds Tryf.pinned (.plain (OpenSpec.ofChange fnArithmTokenLongestMatchSpec)) fnArithmTokenLongestMatchCard
/-- ITS FALSE NEIGHBOUR. Refute it at one input. -/
def FnArithmTokenLongestMatchToldWrongFalsely : Prop := Claim7.holds Tryf.pinned (.plain (OpenSpec.ofChange fnArithmTokenLongestMatchWrong)) fnArithmTokenLongestMatchCard

/-- THE TOLD AND TIED CARD OF 'n010_119.FnDqTokenLongestMatch'. -/
def fnDqTokenLongestMatchCard : Claim7 := { stood := { row := fnDqTokenLongestMatchRow, standIns := [], harness := (true, "29b67ab981613937752e80c4c6d27b5ac02ec08f59858d86a0942ddb3ba87b11"), looks := true }, told := true, laidByText := true, laidKinds := [.data, .sentinel, .pinned], laidTests := true, laidLooks := .later, goes := false }
def FnDqTokenLongestMatchToldSaid : Prop := Claim7.holds Tryf.pinned (.plain (OpenSpec.ofChange fnDqTokenLongestMatchSpec)) fnDqTokenLongestMatchCard
/-- ITS FALSE NEIGHBOUR. Refute it at one input. -/
def FnDqTokenLongestMatchToldWrongFalsely : Prop := Claim7.holds Tryf.pinned (.plain (OpenSpec.ofChange fnDqTokenLongestMatchWrong)) fnDqTokenLongestMatchCard

/-- THE TOLD AND TIED CARD OF 'n010_119.FnRegTokenLongestMatch'. -/
def fnRegTokenLongestMatchCard : Claim7 := { stood := { row := fnRegTokenLongestMatchRow, standIns := [], harness := (true, "29b67ab981613937752e80c4c6d27b5ac02ec08f59858d86a0942ddb3ba87b11"), looks := true }, told := true, laidByText := true, laidKinds := [.data, .sentinel, .pinned], laidTests := true, laidLooks := .later, goes := false }
def FnRegTokenLongestMatchToldSaid : Prop := Claim7.holds Tryf.pinned (.plain (OpenSpec.ofChange fnRegTokenLongestMatchSpec)) fnRegTokenLongestMatchCard
/-- ITS FALSE NEIGHBOUR. Refute it at one input. -/
def FnRegTokenLongestMatchToldWrongFalsely : Prop := Claim7.holds Tryf.pinned (.plain (OpenSpec.ofChange fnRegTokenLongestMatchWrong)) fnRegTokenLongestMatchCard

/-- THE TOLD AND TIED CARD OF 'n010_119.FnParamTokenTable'. -/
def fnParamTokenTableCard : Claim7 := { stood := { row := fnParamTokenTableRow, standIns := [], harness := (true, "29b67ab981613937752e80c4c6d27b5ac02ec08f59858d86a0942ddb3ba87b11"), looks := true }, told := true, laidByText := true, laidKinds := [.data, .sentinel, .pinned], laidTests := true, laidLooks := .later, goes := false }
def FnParamTokenTableToldSaid : Prop := Claim7.holds Tryf.pinned (.plain (OpenSpec.ofChange fnParamTokenTableSpec)) fnParamTokenTableCard
/-- ITS FALSE NEIGHBOUR. Refute it at one input. -/
def FnParamTokenTableToldWrongFalsely : Prop := Claim7.holds Tryf.pinned (.plain (OpenSpec.ofChange fnParamTokenTableWrong)) fnParamTokenTableCard

/-- THE TOLD AND TIED CARD OF 'n010_84.FnFormatIntoRefusesExactly'. -/
def fnFormatIntoRefusesExactlyCard : Claim7 := { stood := { row := fnFormatIntoRefusesExactlyRow, standIns := [], harness := (true, "29b67ab981613937752e80c4c6d27b5ac02ec08f59858d86a0942ddb3ba87b11"), looks := true }, told := true, laidByText := true, laidKinds := [.data, .data, .data, .sentinel, .sentinel], laidTests := true, laidLooks := .later, goes := false }
def FnFormatIntoRefusesExactlyToldSaid : Prop := Claim7.holds Tryf.pinned (.plain (OpenSpec.ofChange fnFormatIntoRefusesExactlySpec)) fnFormatIntoRefusesExactlyCard
/-- ITS FALSE NEIGHBOUR. Refute it at one input. -/
def FnFormatIntoRefusesExactlyToldWrongFalsely : Prop := Claim7.holds Tryf.pinned (.plain (OpenSpec.ofChange fnFormatIntoRefusesExactlyWrong)) fnFormatIntoRefusesExactlyCard
end Rows
end Go.Proofs.YtgcjaijakbejjaaFmt
