/-
  No cell of these rows narrows 'for every input' (looked for: loops, veiled, ifaces, maps, wideKeys, modest, calm, conditions, laid).
  DERIVED. THE GIVEN ROWS OF THIS SEAT. 4 by the template 'for every input the law returns true; each argument reads behind the call as it read before'; 0 by the template 'total and deterministic' (their statements: Qxb6601006aTotals.lean).
  GIVEN WITH THE SEED: the statements are not yours to turn. If you find one false, say at which input.
  Laid BY PROGRAM, IN A SANDBOX (cutbox-rows.mjs): the forced cells as the released guide's own fill.sh prints them over the translation aca7fb00bf455c4e… (all of the seat's roots in one cut). By AI agents, Wed Nov 11 2026. No macro, syntax, notation, axiom, sorry.
-/
import Derived.Test.Qxb6601006aChecked
import GoSem.Claim
import GoSem.ClaimJoined
import GoSem.ClaimMapViews
import Derived.JoinedTies
import Derived.KernelRfl
namespace Go.Proofs.Qxb6601006a
/- THE CELL 'sum', in the pinned program and in every row, IS THE sha256 OF THE DUMP (.gsa) THAT Qxb6601006aProg.lean LOADS. Nothing in Lean hashes anything: it is a label: what it is worth is what the hold of that sum in a sandbox is worth. -/
noncomputable def Try.pinned : Pinned := { name := "qxb6601006a", sum := "aca7fb00bf455c4e4fab039af23146c065556c5d0686ed3a8995d9275412ae82", checked := Try.checked }
namespace Rows
def none {H : Type} : Left H := { results := [], args := [] }

/-- 'zzlaws_root_b1.FnQuotedReadsBackQuoting': WHATEVER THE INPUT: true; the input reads as it did. -/
def fnQuotedReadsBackQuotingSpec : ChangeSpec := { name := "fnQuotedReadsBackQuoting", fn := fun _ => fun
  | [d1, d2, d3, d4, d5] => { results := [.lit (.bool true)], args := [d1, d2, d3, d4, d5] }
  | _ => none }
def fnQuotedReadsBackQuotingRow : OpenClaim := { program := "qxb6601006a", sum := "aca7fb00bf455c4e4fab039af23146c065556c5d0686ed3a8995d9275412ae82", func := "example.com/scoped-transactions/scoped-transactions/zzlaws_root_b1.FnQuotedReadsBackQuoting", spec := "fnQuotedReadsBackQuoting", apart := false }
def FnQuotedReadsBackQuotingSaid : Prop := fnQuotedReadsBackQuotingRow.holds Try.pinned (OpenSpec.ofChange fnQuotedReadsBackQuotingSpec)

/-- ITS FALSE NEIGHBOUR: 'it returns false'. Refute it at one input. -/
def fnQuotedReadsBackQuotingWrong : ChangeSpec := { name := "fnQuotedReadsBackQuoting", fn := fun _ => fun
  | [d1, d2, d3, d4, d5] => { results := [.lit (.bool false)], args := [d1, d2, d3, d4, d5] }
  | _ => none }
def FnQuotedReadsBackQuotingWrongFalsely : Prop := fnQuotedReadsBackQuotingRow.holds Try.pinned (OpenSpec.ofChange fnQuotedReadsBackQuotingWrong)

/-- 'zzlaws_root_b1.FnQuotedStopsAtItsClose': WHATEVER THE INPUT: true; the input reads as it did. -/
def fnQuotedStopsAtItsCloseSpec : ChangeSpec := { name := "fnQuotedStopsAtItsClose", fn := fun _ => fun
  | [d1, d2, d3, d4] => { results := [.lit (.bool true)], args := [d1, d2, d3, d4] }
  | _ => none }
def fnQuotedStopsAtItsCloseRow : OpenClaim := { program := "qxb6601006a", sum := "aca7fb00bf455c4e4fab039af23146c065556c5d0686ed3a8995d9275412ae82", func := "example.com/scoped-transactions/scoped-transactions/zzlaws_root_b1.FnQuotedStopsAtItsClose", spec := "fnQuotedStopsAtItsClose", apart := false }
def FnQuotedStopsAtItsCloseSaid : Prop := fnQuotedStopsAtItsCloseRow.holds Try.pinned (OpenSpec.ofChange fnQuotedStopsAtItsCloseSpec)

/-- ITS FALSE NEIGHBOUR: 'it returns false'. Refute it at one input. -/
def fnQuotedStopsAtItsCloseWrong : ChangeSpec := { name := "fnQuotedStopsAtItsClose", fn := fun _ => fun
  | [d1, d2, d3, d4] => { results := [.lit (.bool false)], args := [d1, d2, d3, d4] }
  | _ => none }
def FnQuotedStopsAtItsCloseWrongFalsely : Prop := fnQuotedStopsAtItsCloseRow.holds Try.pinned (OpenSpec.ofChange fnQuotedStopsAtItsCloseWrong)

/-- 'zzlaws_root_b1.FnSkipSpaceSkipsBuiltBlank': WHATEVER THE INPUT: true; the input reads as it did. -/
def fnSkipSpaceSkipsBuiltBlankSpec : ChangeSpec := { name := "fnSkipSpaceSkipsBuiltBlank", fn := fun _ => fun
  | [d1, d2, d3] => { results := [.lit (.bool true)], args := [d1, d2, d3] }
  | _ => none }
def fnSkipSpaceSkipsBuiltBlankRow : OpenClaim := { program := "qxb6601006a", sum := "aca7fb00bf455c4e4fab039af23146c065556c5d0686ed3a8995d9275412ae82", func := "example.com/scoped-transactions/scoped-transactions/zzlaws_root_b1.FnSkipSpaceSkipsBuiltBlank", spec := "fnSkipSpaceSkipsBuiltBlank", inPlace := ["internal/bytealg.IndexByteString", "internal/bytealg.IndexString"], named := ["internal/bytealg.MaxLen"], apart := false }
def FnSkipSpaceSkipsBuiltBlankSaid : Prop := fnSkipSpaceSkipsBuiltBlankRow.holds Try.pinned (OpenSpec.ofChange fnSkipSpaceSkipsBuiltBlankSpec)

/-- ITS FALSE NEIGHBOUR: 'it returns false'. Refute it at one input. -/
def fnSkipSpaceSkipsBuiltBlankWrong : ChangeSpec := { name := "fnSkipSpaceSkipsBuiltBlank", fn := fun _ => fun
  | [d1, d2, d3] => { results := [.lit (.bool false)], args := [d1, d2, d3] }
  | _ => none }
def FnSkipSpaceSkipsBuiltBlankWrongFalsely : Prop := fnSkipSpaceSkipsBuiltBlankRow.holds Try.pinned (OpenSpec.ofChange fnSkipSpaceSkipsBuiltBlankWrong)

/-- 'zzlaws_root_b1.FnSkipSpaceStopsAtToken': WHATEVER THE INPUT: true; the input reads as it did. -/
def fnSkipSpaceStopsAtTokenSpec : ChangeSpec := { name := "fnSkipSpaceStopsAtToken", fn := fun _ => fun
  | [d] => { results := [.lit (.bool true)], args := [d] }
  | _ => none }
def fnSkipSpaceStopsAtTokenRow : OpenClaim := { program := "qxb6601006a", sum := "aca7fb00bf455c4e4fab039af23146c065556c5d0686ed3a8995d9275412ae82", func := "example.com/scoped-transactions/scoped-transactions/zzlaws_root_b1.FnSkipSpaceStopsAtToken", spec := "fnSkipSpaceStopsAtToken", inPlace := ["internal/bytealg.IndexByteString", "internal/bytealg.IndexString"], named := ["internal/bytealg.MaxLen"], apart := false }
def FnSkipSpaceStopsAtTokenSaid : Prop := fnSkipSpaceStopsAtTokenRow.holds Try.pinned (OpenSpec.ofChange fnSkipSpaceStopsAtTokenSpec)

/-- ITS FALSE NEIGHBOUR: 'it returns false'. Refute it at one input. -/
def fnSkipSpaceStopsAtTokenWrong : ChangeSpec := { name := "fnSkipSpaceStopsAtToken", fn := fun _ => fun
  | [d] => { results := [.lit (.bool false)], args := [d] }
  | _ => none }
def FnSkipSpaceStopsAtTokenWrongFalsely : Prop := fnSkipSpaceStopsAtTokenRow.holds Try.pinned (OpenSpec.ofChange fnSkipSpaceStopsAtTokenWrong)

end Rows
end Go.Proofs.Qxb6601006a
