/-
  DERIVED. GIVEN WITH THE SEED: THE CARDS: each row of YtlphfinmdacolaaDoorRRows.lean that lists a variable, with what it lists TIED to the program's text (the seventh form; the later family's looks); each row that meets fmt, with fmt's text TOLD by the authors' own Lean function (tested against real Go, not proved from fmt's source: count such statements apart). THE CARD IS WHAT COUNTS. Prove the row's statement (the work); the ties are given (YtlphfinmdacolaaDoorRTie.lean); close each card by the builder's one call (the guide's Derived/Test/ToyasCard.lean, 'card_holds'). Laid BY PROGRAM, IN A SANDBOX (cutbox-door.mjs). By AI agents, Wed Nov 11 2026. No macro, syntax, notation, axiom, sorry.
-/
import Derived.Test.YtlphfinmdacolaaDoorRRows
import GoSem.ClaimSeven
namespace Go.Proofs.YtlphfinmdacolaaDoorR
namespace Rows

/-- THE TIED CARD OF 'laws.FnSnippet'. -/
def fnSnippetCard : Claim7 := { stood := { row := fnSnippetRow, standIns := [], harness := (true, "5896470e2d7b885314f6c13365621e3c8d01c1acff97a4c8a4d4f362b162ff97"), looks := false }, kinds := [], alts := [], laidByText := true, laidKinds := [.data, .pinned], laidTests := true, laidLooks := .later }
def FnSnippetCardSaid : Prop := Claim7.holds Tryd.pinned (.plain (OpenSpec.ofChange fnSnippetSpec)) fnSnippetCard

/-- THE TIED CARD OF 'laws.FnBind'. -/
def fnBindCard : Claim7 := { stood := { row := fnBindRow, standIns := [], harness := (true, "5896470e2d7b885314f6c13365621e3c8d01c1acff97a4c8a4d4f362b162ff97"), looks := false }, kinds := [], alts := [], laidByText := true, laidKinds := [.data, .pinned], laidTests := true, laidLooks := .later }
def FnBindCardSaid : Prop := Claim7.holds Tryd.pinned (.plain (OpenSpec.ofChange fnBindSpec)) fnBindCard

/-- THE SECOND FORM's CARD OF 'laws.FnSnippet'. -/
def fnSnippetUptoCard : Claim7 := { stood := { row := fnSnippetUptoRow, standIns := [], harness := (true, "5896470e2d7b885314f6c13365621e3c8d01c1acff97a4c8a4d4f362b162ff97"), looks := false }, kinds := [], alts := [], laidByText := true, laidKinds := [.data, .pinned], laidTests := true, laidLooks := .later }
def FnSnippetUptoCardSaid : Prop := Claim7.holds Tryd.pinned (.plain (OpenSpec.upto fnSnippetSpec)) fnSnippetUptoCard

/-- THE SECOND FORM's CARD OF 'laws.FnBind'. -/
def fnBindUptoCard : Claim7 := { stood := { row := fnBindUptoRow, standIns := [], harness := (true, "5896470e2d7b885314f6c13365621e3c8d01c1acff97a4c8a4d4f362b162ff97"), looks := false }, kinds := [], alts := [], laidByText := true, laidKinds := [.data, .pinned], laidTests := true, laidLooks := .later }
def FnBindUptoCardSaid : Prop := Claim7.holds Tryd.pinned (.plain (OpenSpec.upto fnBindSpec)) fnBindUptoCard
end Rows
end Go.Proofs.YtlphfinmdacolaaDoorR
