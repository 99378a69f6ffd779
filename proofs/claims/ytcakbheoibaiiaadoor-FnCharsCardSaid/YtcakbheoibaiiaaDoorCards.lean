/-
  DERIVED. GIVEN WITH THE SEED: THE CARDS: each row of YtcakbheoibaiiaaDoorRows.lean that lists a variable, with what it lists TIED to the program's text (the seventh form; the later family's looks); each row that meets fmt, with fmt's text TOLD by the authors' own Lean function (tested against real Go, not proved from fmt's source: count such statements apart). THE CARD IS WHAT COUNTS. Prove the row's statement (the work); the ties are given (YtcakbheoibaiiaaDoorTie.lean); close each card by the builder's one call (the guide's Derived/Test/ToyasCard.lean, 'card_holds'). Laid BY PROGRAM, IN A SANDBOX (cutbox-door.mjs). By AI agents, Wed Nov 11 2026. No macro, syntax, notation, axiom, sorry.
-/
import Derived.Test.YtcakbheoibaiiaaDoorRows
import GoSem.ClaimSeven
namespace Go.Proofs.YtcakbheoibaiiaaDoor
namespace Rows

/-- THE TIED CARD OF 'laws.FnCharsText'. -/
def fnCharsTextCard : Claim7 := { stood := { row := fnCharsTextRow, standIns := [], harness := (true, "ded9e896efdc60d08a9e6a3b60537bfe80e9181a354870aaec85b3e326f96179"), looks := false }, kinds := [], alts := [], laidByText := true, laidKinds := [.data, .pinned], laidTests := true, laidLooks := .later }
def FnCharsTextCardSaid : Prop := Claim7.holds Tryd.pinned (.plain (OpenSpec.ofChange fnCharsTextSpec)) fnCharsTextCard

/-- THE TIED CARD OF 'laws.FnChars'. -/
def fnCharsCard : Claim7 := { stood := { row := fnCharsRow, standIns := [], harness := (true, "ded9e896efdc60d08a9e6a3b60537bfe80e9181a354870aaec85b3e326f96179"), looks := false }, kinds := [], alts := [], laidByText := true, laidKinds := [.data, .pinned], laidTests := true, laidLooks := .later }
def FnCharsCardSaid : Prop := Claim7.holds Tryd.pinned (.plain (OpenSpec.ofChange fnCharsSpec)) fnCharsCard

/-- THE SECOND FORM's CARD OF 'laws.FnCharsText'. -/
def fnCharsTextUptoCard : Claim7 := { stood := { row := fnCharsTextUptoRow, standIns := [], harness := (true, "ded9e896efdc60d08a9e6a3b60537bfe80e9181a354870aaec85b3e326f96179"), looks := false }, kinds := [], alts := [], laidByText := true, laidKinds := [.data, .pinned], laidTests := true, laidLooks := .later }
def FnCharsTextUptoCardSaid : Prop := Claim7.holds Tryd.pinned (.plain (OpenSpec.upto fnCharsTextSpec)) fnCharsTextUptoCard

/-- THE SECOND FORM's CARD OF 'laws.FnChars'. -/
def fnCharsUptoCard : Claim7 := { stood := { row := fnCharsUptoRow, standIns := [], harness := (true, "ded9e896efdc60d08a9e6a3b60537bfe80e9181a354870aaec85b3e326f96179"), looks := false }, kinds := [], alts := [], laidByText := true, laidKinds := [.data, .pinned], laidTests := true, laidLooks := .later }
def FnCharsUptoCardSaid : Prop := Claim7.holds Tryd.pinned (.plain (OpenSpec.upto fnCharsSpec)) fnCharsUptoCard
end Rows
end Go.Proofs.YtcakbheoibaiiaaDoor
