/-
  No cell of these rows narrows 'for every input' (looked for: loops, veiled, ifaces, maps, wideKeys, modest, calm, conditions, laid).
  DERIVED. THE GIVEN ROWS OF THIS SEAT. 5 by the template 'for every input the law returns true; each argument reads behind the call as it read before'; 0 by the template 'total and deterministic' (their statements: Qxb6001792aTotals.lean).
  GIVEN WITH THE SEED: the statements are not yours to turn. If you find one false, say at which input.
  Laid BY PROGRAM, IN A SANDBOX (cutbox-rows.mjs): the forced cells as the released guide's own fill.sh prints them over the translation 2e2f5d33831418df… (all of the seat's roots in one cut). By AI agents, Wed Nov 11 2026. No macro, syntax, notation, axiom, sorry.
-/
import Derived.Test.Qxb6001792aChecked
import GoSem.Claim
import GoSem.ClaimJoined
import GoSem.ClaimMapViews
import Derived.JoinedTies
import Derived.KernelRfl
namespace Go.Proofs.Qxb6001792a
/- THE CELL 'sum', in the pinned program and in every row, IS THE sha256 OF THE DUMP (.gsa) THAT Qxb6001792aProg.lean LOADS. Nothing in Lean hashes anything: it is a label: what it is worth is what the hold of that sum in a sandbox is worth. -/
noncomputable def Try.pinned : Pinned := { name := "qxb6001792a", sum := "2e2f5d33831418df0ef18f2f2b13c283f4295bae8d165d40e38edb3d2ae3a2f9", checked := Try.checked }
namespace Rows
def none {H : Type} : Left H := { results := [], args := [] }

/-- 'zzlaws_root_b1.FnExpiredSQLLaysEachArgumentInVerbatim': WHATEVER THE INPUT: true; the input reads as it did. -/
def fnExpiredSQLLaysEachArgumentInVerbatimSpec : ChangeSpec := { name := "fnExpiredSQLLaysEachArgumentInVerbatim", fn := fun _ => fun
  | [d1, d2] => { results := [.lit (.bool true)], args := [d1, d2] }
  | _ => none }
def fnExpiredSQLLaysEachArgumentInVerbatimRow : OpenClaim := { program := "qxb6001792a", sum := "2e2f5d33831418df0ef18f2f2b13c283f4295bae8d165d40e38edb3d2ae3a2f9", func := "example.com/onceguard/onceguard/zzlaws_root_b1.FnExpiredSQLLaysEachArgumentInVerbatim", spec := "fnExpiredSQLLaysEachArgumentInVerbatim", apart := false }
def FnExpiredSQLLaysEachArgumentInVerbatimSaid : Prop := fnExpiredSQLLaysEachArgumentInVerbatimRow.holds Try.pinned (OpenSpec.ofChange fnExpiredSQLLaysEachArgumentInVerbatimSpec)

/-- ITS FALSE NEIGHBOUR: 'it returns false'. Refute it at one input. -/
def fnExpiredSQLLaysEachArgumentInVerbatimWrong : ChangeSpec := { name := "fnExpiredSQLLaysEachArgumentInVerbatim", fn := fun _ => fun
  | [d1, d2] => { results := [.lit (.bool false)], args := [d1, d2] }
  | _ => none }
def FnExpiredSQLLaysEachArgumentInVerbatimWrongFalsely : Prop := fnExpiredSQLLaysEachArgumentInVerbatimRow.holds Try.pinned (OpenSpec.ofChange fnExpiredSQLLaysEachArgumentInVerbatimWrong)

/-- 'zzlaws_root_b1.FnExpiredSQLTellsTablesApart': WHATEVER THE INPUT: true; the input reads as it did. -/
def fnExpiredSQLTellsTablesApartSpec : ChangeSpec := { name := "fnExpiredSQLTellsTablesApart", fn := fun _ => fun
  | [d1, d2, d3] => { results := [.lit (.bool true)], args := [d1, d2, d3] }
  | _ => none }
def fnExpiredSQLTellsTablesApartRow : OpenClaim := { program := "qxb6001792a", sum := "2e2f5d33831418df0ef18f2f2b13c283f4295bae8d165d40e38edb3d2ae3a2f9", func := "example.com/onceguard/onceguard/zzlaws_root_b1.FnExpiredSQLTellsTablesApart", spec := "fnExpiredSQLTellsTablesApart", apart := false }
def FnExpiredSQLTellsTablesApartSaid : Prop := fnExpiredSQLTellsTablesApartRow.holds Try.pinned (OpenSpec.ofChange fnExpiredSQLTellsTablesApartSpec)

/-- ITS FALSE NEIGHBOUR: 'it returns false'. Refute it at one input. -/
def fnExpiredSQLTellsTablesApartWrong : ChangeSpec := { name := "fnExpiredSQLTellsTablesApart", fn := fun _ => fun
  | [d1, d2, d3] => { results := [.lit (.bool false)], args := [d1, d2, d3] }
  | _ => none }
def FnExpiredSQLTellsTablesApartWrongFalsely : Prop := fnExpiredSQLTellsTablesApartRow.holds Try.pinned (OpenSpec.ofChange fnExpiredSQLTellsTablesApartWrong)

/-- 'zzlaws_root_b1.FnExpiredSQLTellsKeysApart': WHATEVER THE INPUT: true; the input reads as it did. -/
def fnExpiredSQLTellsKeysApartSpec : ChangeSpec := { name := "fnExpiredSQLTellsKeysApart", fn := fun _ => fun
  | [d1, d2, d3] => { results := [.lit (.bool true)], args := [d1, d2, d3] }
  | _ => none }
def fnExpiredSQLTellsKeysApartRow : OpenClaim := { program := "qxb6001792a", sum := "2e2f5d33831418df0ef18f2f2b13c283f4295bae8d165d40e38edb3d2ae3a2f9", func := "example.com/onceguard/onceguard/zzlaws_root_b1.FnExpiredSQLTellsKeysApart", spec := "fnExpiredSQLTellsKeysApart", apart := false }
def FnExpiredSQLTellsKeysApartSaid : Prop := fnExpiredSQLTellsKeysApartRow.holds Try.pinned (OpenSpec.ofChange fnExpiredSQLTellsKeysApartSpec)

/-- ITS FALSE NEIGHBOUR: 'it returns false'. Refute it at one input. -/
def fnExpiredSQLTellsKeysApartWrong : ChangeSpec := { name := "fnExpiredSQLTellsKeysApart", fn := fun _ => fun
  | [d1, d2, d3] => { results := [.lit (.bool false)], args := [d1, d2, d3] }
  | _ => none }
def FnExpiredSQLTellsKeysApartWrongFalsely : Prop := fnExpiredSQLTellsKeysApartRow.holds Try.pinned (OpenSpec.ofChange fnExpiredSQLTellsKeysApartWrong)

/-- 'zzlaws_root_b1.FnHeaderPairsRoundTrip': WHATEVER THE INPUT: true; the input reads as it did. -/
def fnHeaderPairsRoundTripSpec : ChangeSpec := { name := "fnHeaderPairsRoundTrip", fn := fun _ => fun
  | [d1, d2] => { results := [.lit (.bool true)], args := [d1, d2] }
  | _ => none }
def fnHeaderPairsRoundTripRow : OpenClaim := { program := "qxb6001792a", sum := "2e2f5d33831418df0ef18f2f2b13c283f4295bae8d165d40e38edb3d2ae3a2f9", func := "example.com/onceguard/onceguard/zzlaws_root_b1.FnHeaderPairsRoundTrip", spec := "fnHeaderPairsRoundTrip", apart := false }
def FnHeaderPairsRoundTripSaid : Prop := fnHeaderPairsRoundTripRow.holds Try.pinned (OpenSpec.ofChange fnHeaderPairsRoundTripSpec)

/-- ITS FALSE NEIGHBOUR: 'it returns false'. Refute it at one input. -/
def fnHeaderPairsRoundTripWrong : ChangeSpec := { name := "fnHeaderPairsRoundTrip", fn := fun _ => fun
  | [d1, d2] => { results := [.lit (.bool false)], args := [d1, d2] }
  | _ => none }
def FnHeaderPairsRoundTripWrongFalsely : Prop := fnHeaderPairsRoundTripRow.holds Try.pinned (OpenSpec.ofChange fnHeaderPairsRoundTripWrong)

/-- 'zzlaws_root_b1.FnHeaderPairsListsEveryValueUnderItsName': WHATEVER THE INPUT: true; the input reads as it did. -/
def fnHeaderPairsListsEveryValueUnderItsNameSpec : ChangeSpec := { name := "fnHeaderPairsListsEveryValueUnderItsName", fn := fun _ => fun
  | [d1, d2] => { results := [.lit (.bool true)], args := [d1, d2] }
  | _ => none }
def fnHeaderPairsListsEveryValueUnderItsNameRow : OpenClaim := { program := "qxb6001792a", sum := "2e2f5d33831418df0ef18f2f2b13c283f4295bae8d165d40e38edb3d2ae3a2f9", func := "example.com/onceguard/onceguard/zzlaws_root_b1.FnHeaderPairsListsEveryValueUnderItsName", spec := "fnHeaderPairsListsEveryValueUnderItsName", apart := false }
def FnHeaderPairsListsEveryValueUnderItsNameSaid : Prop := fnHeaderPairsListsEveryValueUnderItsNameRow.holds Try.pinned (OpenSpec.ofChange fnHeaderPairsListsEveryValueUnderItsNameSpec)

/-- ITS FALSE NEIGHBOUR: 'it returns false'. Refute it at one input. -/
def fnHeaderPairsListsEveryValueUnderItsNameWrong : ChangeSpec := { name := "fnHeaderPairsListsEveryValueUnderItsName", fn := fun _ => fun
  | [d1, d2] => { results := [.lit (.bool false)], args := [d1, d2] }
  | _ => none }
def FnHeaderPairsListsEveryValueUnderItsNameWrongFalsely : Prop := fnHeaderPairsListsEveryValueUnderItsNameRow.holds Try.pinned (OpenSpec.ofChange fnHeaderPairsListsEveryValueUnderItsNameWrong)

end Rows
end Go.Proofs.Qxb6001792a
