/-
  DERIVED. GIVEN WITH THE SEED: THE CARDS: each row of YtgjlbodclfhlfaaDoorRows.lean that lists a variable, with what it lists TIED to the program's text (the seventh form; the later family's looks); each row that meets fmt, with fmt's text TOLD by the authors' own Lean function (tested against real Go, not proved from fmt's source: count such statements apart). THE CARD IS WHAT COUNTS. Prove the row's statement (the work); the ties are given (YtgjlbodclfhlfaaDoorTie.lean); close each card by the builder's one call (the guide's Derived/Test/ToyasCard.lean, 'card_holds'). Laid BY PROGRAM, IN A SANDBOX (cutbox-door.mjs). By AI agents, Wed Nov 11 2026. No macro, syntax, notation, axiom, sorry.
-/
import Derived.Test.YtgjlbodclfhlfaaDoorRows
import GoSem.ClaimSeven
namespace Go.Proofs.YtgjlbodclfhlfaaDoor
namespace Rows

/-- THE TIED CARD OF 'laws.FnVarfloat'. -/
def fnVarfloatCard : Claim7 := { stood := { row := fnVarfloatRow, standIns := [], harness := (true, "5b321109615e757cf884db5c8ac573da349de4151e5e91b6e3ed02292e073f80"), looks := false }, kinds := [], alts := [], laidByText := true, laidKinds := [.data], laidTests := true, laidLooks := .later }
def FnVarfloatCardSaid : Prop := Claim7.holds Tryd.pinned (.plain (OpenSpec.ofChange fnVarfloatSpec)) fnVarfloatCard

/-- THE TIED CARD OF 'laws.FnUvarint'. -/
def fnUvarintCard : Claim7 := { stood := { row := fnUvarintRow, standIns := [], harness := (true, "5b321109615e757cf884db5c8ac573da349de4151e5e91b6e3ed02292e073f80"), looks := false }, kinds := [], alts := [], laidByText := true, laidKinds := [.data], laidTests := true, laidLooks := .later }
def FnUvarintCardSaid : Prop := Claim7.holds Tryd.pinned (.plain (OpenSpec.ofChange fnUvarintSpec)) fnUvarintCard

/-- THE SECOND FORM's CARD OF 'laws.FnVarfloat'. -/
def fnVarfloatUptoCard : Claim7 := { stood := { row := fnVarfloatUptoRow, standIns := [], harness := (true, "5b321109615e757cf884db5c8ac573da349de4151e5e91b6e3ed02292e073f80"), looks := false }, kinds := [], alts := [], laidByText := true, laidKinds := [.data], laidTests := true, laidLooks := .later }
def FnVarfloatUptoCardSaid : Prop := Claim7.holds Tryd.pinned (.plain (OpenSpec.upto fnVarfloatSpec)) fnVarfloatUptoCard

/-- THE SECOND FORM's CARD OF 'laws.FnUvarint'. -/
def fnUvarintUptoCard : Claim7 := { stood := { row := fnUvarintUptoRow, standIns := [], harness := (true, "5b321109615e757cf884db5c8ac573da349de4151e5e91b6e3ed02292e073f80"), looks := false }, kinds := [], alts := [], laidByText := true, laidKinds := [.data], laidTests := true, laidLooks := .later }
def FnUvarintUptoCardSaid : Prop := Claim7.holds Tryd.pinned (.plain (OpenSpec.upto fnUvarintSpec)) fnUvarintUptoCard
end Rows
end Go.Proofs.YtgjlbodclfhlfaaDoor
