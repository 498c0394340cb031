/-
  DERIVED. GIVEN WITH THE SEED: THE CARDS: each row of Qxb6603675aDoorRows.lean that lists a variable, with what it lists TIED to the program's text (the seventh form; the later family's looks); each row that meets fmt, with fmt's text TOLD by the authors' own Lean function (tested against real Go, not proved from fmt's source: count such statements apart). THE CARD IS WHAT COUNTS. Prove the row's statement (the work); the ties are given (Qxb6603675aDoorTie.lean); close each card by the builder's one call (the guide's Derived/Test/ToyasCard.lean, 'card_holds'). Laid BY PROGRAM, IN A SANDBOX (cutbox-door.mjs). By AI agents, Wed Nov 11 2026. No macro, syntax, notation, axiom, sorry.
-/
import Derived.Test.Qxb6603675aDoorRows
import GoSem.ClaimSeven
namespace Go.Proofs.Qxb6603675aDoor
namespace Rows

/-- THE TIED CARD OF 'zzlaws_pkg_kv_b1.FnPlainCommandStringsAreNameThenArgs'. -/
def fnPlainCommandStringsAreNameThenArgsCard : Claim7 := { stood := { row := fnPlainCommandStringsAreNameThenArgsRow, standIns := [], harness := (true, "78313b99caccd255ccd6a62f18f7b533995ed2e8c186f1c5e949d5a125685737"), looks := false }, kinds := [], alts := [], laidByText := true, laidKinds := [.data, .data, .data], laidTests := true, laidLooks := .later }
def FnPlainCommandStringsAreNameThenArgsCardSaid : Prop := Claim7.holds Tryd.pinned (.plain (OpenSpec.ofChange fnPlainCommandStringsAreNameThenArgsSpec)) fnPlainCommandStringsAreNameThenArgsCard

/-- THE TIED CARD OF 'zzlaws_pkg_kv_b1.FnWatchOnlyTransactionStringsAreCanonical'. -/
def fnWatchOnlyTransactionStringsAreCanonicalCard : Claim7 := { stood := { row := fnWatchOnlyTransactionStringsAreCanonicalRow, standIns := [], harness := (true, "78313b99caccd255ccd6a62f18f7b533995ed2e8c186f1c5e949d5a125685737"), looks := false }, kinds := [], alts := [], laidByText := true, laidKinds := [.data, .data, .data, .sentinel], laidTests := true, laidLooks := .later }
def FnWatchOnlyTransactionStringsAreCanonicalCardSaid : Prop := Claim7.holds Tryd.pinned (.plain (OpenSpec.ofChange fnWatchOnlyTransactionStringsAreCanonicalSpec)) fnWatchOnlyTransactionStringsAreCanonicalCard
end Rows
end Go.Proofs.Qxb6603675aDoor
