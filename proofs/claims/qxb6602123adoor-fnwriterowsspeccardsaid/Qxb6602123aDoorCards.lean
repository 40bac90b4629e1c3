/-
  DERIVED. GIVEN WITH THE SEED: THE CARDS: each row of Qxb6602123aDoorRows.lean that lists a variable, with what it lists TIED to the program's text (the seventh form; the later family's looks); each row that meets fmt, with fmt's text TOLD by the authors' own Lean function (tested against real Go, not proved from fmt's source: count such statements apart). THE CARD IS WHAT COUNTS. Prove the row's statement (the work); the ties are given (Qxb6602123aDoorTie.lean); close each card by the builder's one call (the guide's Derived/Test/ToyasCard.lean, 'card_holds'). Laid BY PROGRAM, IN A SANDBOX (cutbox-door.mjs). By AI agents, Wed Nov 11 2026. No macro, syntax, notation, axiom, sorry.
-/
import Derived.Test.Qxb6602123aDoorRows
import GoSem.ClaimSeven
namespace Go.Proofs.Qxb6602123aDoor
namespace Rows

/-- THE TIED CARD OF 'zzlaws_root_b1.FnWriteOnConflictKeysAndSetApart'. -/
def fnWriteOnConflictKeysAndSetApartCard : Claim7 := { stood := { row := fnWriteOnConflictKeysAndSetApartRow, standIns := [], harness := (true, "c8621fdd1e834f45a8edcd68c7d058a6e1f7adfeba3c0ead6e39cc2b88a7c299"), looks := false }, kinds := [], alts := [], laidByText := true, laidKinds := [.data, .pinned], laidTests := true, laidLooks := .later }
def FnWriteOnConflictKeysAndSetApartCardSaid : Prop := Claim7.holds Tryd.pinned (.plain (OpenSpec.ofChange fnWriteOnConflictKeysAndSetApartSpec)) fnWriteOnConflictKeysAndSetApartCard

/-- THE TIED CARD OF 'zzlaws_root_b1.FnUpdateByKeyTableNameInjective'. -/
def fnUpdateByKeyTableNameInjectiveCard : Claim7 := { stood := { row := fnUpdateByKeyTableNameInjectiveRow, standIns := [], harness := (true, "c8621fdd1e834f45a8edcd68c7d058a6e1f7adfeba3c0ead6e39cc2b88a7c299"), looks := false }, kinds := [], alts := [], laidByText := true, laidKinds := [.data, .data, .data, .data, .pinned], laidTests := true, laidLooks := .later }
def FnUpdateByKeyTableNameInjectiveCardSaid : Prop := Claim7.holds Tryd.pinned (.plain (OpenSpec.ofChange fnUpdateByKeyTableNameInjectiveSpec)) fnUpdateByKeyTableNameInjectiveCard

/-- THE TIED CARD OF 'zzlaws_root_b1.FnWriteRowsSpec'. -/
def fnWriteRowsSpecCard : Claim7 := { stood := { row := fnWriteRowsSpecRow, standIns := [], harness := (true, "c8621fdd1e834f45a8edcd68c7d058a6e1f7adfeba3c0ead6e39cc2b88a7c299"), looks := false }, kinds := [], alts := [], laidByText := true, laidKinds := [.data, .data, .data], laidTests := true, laidLooks := .later }
def FnWriteRowsSpecCardSaid : Prop := Claim7.holds Tryd.pinned (.plain (OpenSpec.ofChange fnWriteRowsSpecSpec)) fnWriteRowsSpecCard

/-- THE TIED CARD OF 'zzlaws_root_b1.FnWriteRowsMoreRowsExtend'. -/
def fnWriteRowsMoreRowsExtendCard : Claim7 := { stood := { row := fnWriteRowsMoreRowsExtendRow, standIns := [], harness := (true, "c8621fdd1e834f45a8edcd68c7d058a6e1f7adfeba3c0ead6e39cc2b88a7c299"), looks := false }, kinds := [], alts := [], laidByText := true, laidKinds := [.data, .data, .data], laidTests := true, laidLooks := .later }
def FnWriteRowsMoreRowsExtendCardSaid : Prop := Claim7.holds Tryd.pinned (.plain (OpenSpec.ofChange fnWriteRowsMoreRowsExtendSpec)) fnWriteRowsMoreRowsExtendCard

/-- THE TIED CARD OF 'zzlaws_root_b1.FnWriteRowsUnnumberedConcat'. -/
def fnWriteRowsUnnumberedConcatCard : Claim7 := { stood := { row := fnWriteRowsUnnumberedConcatRow, standIns := [], harness := (true, "c8621fdd1e834f45a8edcd68c7d058a6e1f7adfeba3c0ead6e39cc2b88a7c299"), looks := false }, kinds := [], alts := [], laidByText := true, laidKinds := [.data, .data, .data], laidTests := true, laidLooks := .later }
def FnWriteRowsUnnumberedConcatCardSaid : Prop := Claim7.holds Tryd.pinned (.plain (OpenSpec.ofChange fnWriteRowsUnnumberedConcatSpec)) fnWriteRowsUnnumberedConcatCard
end Rows
end Go.Proofs.Qxb6602123aDoor
