/-
  DERIVED. GIVEN WITH THE SEED: THE CARDS: each row of YtifoeehfblddcaaDoorRows.lean that lists a variable, with what it lists TIED to the program's text (the seventh form; the later family's looks); each row that meets fmt, with fmt's text TOLD by the authors' own Lean function (tested against real Go, not proved from fmt's source: count such statements apart). THE CARD IS WHAT COUNTS. Prove the row's statement (the work); the ties are given (YtifoeehfblddcaaDoorTie.lean); close each card by the builder's one call (the guide's Derived/Test/ToyasCard.lean, 'card_holds'). Laid BY PROGRAM, IN A SANDBOX (cutbox-door.mjs). By AI agents, Wed Nov 11 2026. No macro, syntax, notation, axiom, sorry.
-/
import Derived.Test.YtifoeehfblddcaaDoorRows
import GoSem.ClaimSeven
namespace Go.Proofs.YtifoeehfblddcaaDoor
namespace Rows

/-- THE TIED CARD OF 'laws.FnBits'. -/
def fnBitsCard : Claim7 := { stood := { row := fnBitsRow, standIns := [], harness := (true, "7f4a9b0531de1f32187cd4a45074467f481815f1f8c51f9482e9f6dd6b076dc6"), looks := true }, kinds := [], alts := [], laidByText := true, laidKinds := [.data, .data, .data], laidTests := true, laidLooks := .later }
def FnBitsCardSaid : Prop := Claim7.holds Tryd.pinned (.plain (OpenSpec.ofChange fnBitsSpec)) fnBitsCard

/-- THE TIED CARD OF 'laws.FnBitsEqual'. -/
def fnBitsEqualCard : Claim7 := { stood := { row := fnBitsEqualRow, standIns := [], harness := (true, "7f4a9b0531de1f32187cd4a45074467f481815f1f8c51f9482e9f6dd6b076dc6"), looks := true }, kinds := [], alts := [], laidByText := true, laidKinds := [.data, .data, .data], laidTests := true, laidLooks := .later }
def FnBitsEqualCardSaid : Prop := Claim7.holds Tryd.pinned (.plain (OpenSpec.ofChange fnBitsEqualSpec)) fnBitsEqualCard

/-- THE TIED CARD OF 'laws.FnSetEqual'. -/
def fnSetEqualCard : Claim7 := { stood := { row := fnSetEqualRow, standIns := [], harness := (true, "7f4a9b0531de1f32187cd4a45074467f481815f1f8c51f9482e9f6dd6b076dc6"), looks := true }, kinds := [], alts := [], laidByText := true, laidKinds := [.data, .data, .data], laidTests := true, laidLooks := .later }
def FnSetEqualCardSaid : Prop := Claim7.holds Tryd.pinned (.plain (OpenSpec.ofChange fnSetEqualSpec)) fnSetEqualCard

/-- THE SECOND FORM's CARD OF 'laws.FnBits'. -/
def fnBitsUptoCard : Claim7 := { stood := { row := fnBitsUptoRow, standIns := [], harness := (true, "7f4a9b0531de1f32187cd4a45074467f481815f1f8c51f9482e9f6dd6b076dc6"), looks := true }, kinds := [], alts := [], laidByText := true, laidKinds := [.data, .data, .data], laidTests := true, laidLooks := .later }
def FnBitsUptoCardSaid : Prop := Claim7.holds Tryd.pinned (.plain (OpenSpec.upto fnBitsSpec)) fnBitsUptoCard

/-- THE SECOND FORM's CARD OF 'laws.FnBitsEqual'. -/
def fnBitsEqualUptoCard : Claim7 := { stood := { row := fnBitsEqualUptoRow, standIns := [], harness := (true, "7f4a9b0531de1f32187cd4a45074467f481815f1f8c51f9482e9f6dd6b076dc6"), looks := true }, kinds := [], alts := [], laidByText := true, laidKinds := [.data, .data, .data], laidTests := true, laidLooks := .later }
def FnBitsEqualUptoCardSaid : Prop := Claim7.holds Tryd.pinned (.plain (OpenSpec.upto fnBitsEqualSpec)) fnBitsEqualUptoCard

/-- THE SECOND FORM's CARD OF 'laws.FnSetEqual'. -/
def fnSetEqualUptoCard : Claim7 := { stood := { row := fnSetEqualUptoRow, standIns := [], harness := (true, "7f4a9b0531de1f32187cd4a45074467f481815f1f8c51f9482e9f6dd6b076dc6"), looks := true }, kinds := [], alts := [], laidByText := true, laidKinds := [.data, .data, .data], laidTests := true, laidLooks := .later }
def FnSetEqualUptoCardSaid : Prop := Claim7.holds Tryd.pinned (.plain (OpenSpec.upto fnSetEqualSpec)) fnSetEqualUptoCard
end Rows
end Go.Proofs.YtifoeehfblddcaaDoor
