/-
  DERIVED. GIVEN WITH THE SEED: THE CARDS: each row of Qxb6630518aFmtRows.lean that lists a variable, with what it lists TIED to the program's text (the seventh form; the later family's looks); each row that meets fmt, with fmt's text TOLD by the authors' own Lean function (tested against real Go, not proved from fmt's source: count such statements apart). THE CARD IS WHAT COUNTS. Prove the row's statement (the work); the ties are given (Qxb6630518aFmtTie.lean); close each card by the builder's one call (the guide's Derived/Test/ToyasCard.lean, 'card_holds'). Laid BY PROGRAM, IN A SANDBOX (cutbox-door.mjs). By AI agents, Wed Nov 11 2026. No macro, syntax, notation, axiom, sorry.
-/
import Derived.Test.Qxb6630518aFmtRows
import GoSem.ClaimSeven
namespace Go.Proofs.Qxb6630518aFmt
namespace Rows

/-- THE TOLD CARD OF 'zzlaws_pkg_peerwire_b1.FnUnpackBitsExact'. -/
def fnUnpackBitsExactCard : Claim7 := { stood := { row := fnUnpackBitsExactRow, standIns := [], harness := (true, "1f312bc20b49c5c55bcacc980bf784377225c0081a801e4df6489ba6979447e2"), looks := false }, told := true, goes := false }
def FnUnpackBitsExactToldSaid : Prop := Claim7.holds Tryf.pinned (.plain (OpenSpec.ofChange fnUnpackBitsExactSpec)) fnUnpackBitsExactCard
/-- ITS FALSE NEIGHBOUR. Refute it at one input. -/
def FnUnpackBitsExactToldWrongFalsely : Prop := Claim7.holds Tryf.pinned (.plain (OpenSpec.ofChange fnUnpackBitsExactWrong)) fnUnpackBitsExactCard

/-- THE TOLD CARD OF 'zzlaws_pkg_peerwire_b1.FnUnpackBitsJoinAtAnyCut'. -/
def fnUnpackBitsJoinAtAnyCutCard : Claim7 := { stood := { row := fnUnpackBitsJoinAtAnyCutRow, standIns := [], harness := (true, "1f312bc20b49c5c55bcacc980bf784377225c0081a801e4df6489ba6979447e2"), looks := false }, told := true, goes := false }
def FnUnpackBitsJoinAtAnyCutToldSaid : Prop := Claim7.holds Tryf.pinned (.plain (OpenSpec.ofChange fnUnpackBitsJoinAtAnyCutSpec)) fnUnpackBitsJoinAtAnyCutCard
/-- ITS FALSE NEIGHBOUR. Refute it at one input. -/
def FnUnpackBitsJoinAtAnyCutToldWrongFalsely : Prop := Claim7.holds Tryf.pinned (.plain (OpenSpec.ofChange fnUnpackBitsJoinAtAnyCutWrong)) fnUnpackBitsJoinAtAnyCutCard
end Rows
end Go.Proofs.Qxb6630518aFmt
