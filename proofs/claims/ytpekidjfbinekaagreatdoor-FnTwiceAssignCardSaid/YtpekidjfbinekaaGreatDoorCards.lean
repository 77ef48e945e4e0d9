/-
  DERIVED. GIVEN WITH THE SEED: THE CARDS: each row of YtpekidjfbinekaaGreatDoorRows.lean that lists a variable, with what it lists TIED to the program's text (the seventh form; the later family's looks); each row that meets fmt, with fmt's text TOLD by the authors' own Lean function (tested against real Go, not proved from fmt's source: count such statements apart). THE CARD IS WHAT COUNTS. Prove the row's statement (the work); the ties are given (YtpekidjfbinekaaGreatDoorTie.lean); close each card by the builder's one call (the guide's Derived/Test/ToyasCard.lean, 'card_holds'). Laid BY PROGRAM, IN A SANDBOX (cutbox-door.mjs). By AI agents, Wed Nov 11 2026. No macro, syntax, notation, axiom, sorry.
-/
import Derived.Test.YtpekidjfbinekaaGreatDoorRows
import GoSem.ClaimSeven
namespace Go.Proofs.YtpekidjfbinekaaGreatDoor
namespace Rows

/-- THE TIED CARD OF 'laws.FnDefined'. -/
def fnDefinedCard : Claim7 := { stood := { row := fnDefinedRow, standIns := [], harness := (true, "6abeb0658d03b951d94272d93b57b83eefde2bc8a9a87757e42ec4dfff96fb87"), looks := true }, kinds := [], alts := [], laidByText := true, laidKinds := [.data, .data, .data, .data, .pinned, .pinned, .pinned], laidTests := true, laidLooks := .later }
def FnDefinedCardSaid : Prop := Claim7.holds Tryz.pinned (.plain (OpenSpec.ofChange fnDefinedSpec)) fnDefinedCard

/-- THE TIED CARD OF 'laws.FnModes'. -/
def fnModesCard : Claim7 := { stood := { row := fnModesRow, standIns := [], harness := (true, "6abeb0658d03b951d94272d93b57b83eefde2bc8a9a87757e42ec4dfff96fb87"), looks := true }, kinds := [], alts := [], laidByText := true, laidKinds := [.data, .data, .data, .data, .pinned, .pinned, .pinned], laidTests := true, laidLooks := .later }
def FnModesCardSaid : Prop := Claim7.holds Tryz.pinned (.plain (OpenSpec.ofChange fnModesSpec)) fnModesCard

/-- THE TIED CARD OF 'laws.FnRenamed'. -/
def fnRenamedCard : Claim7 := { stood := { row := fnRenamedRow, standIns := [], harness := (true, "6abeb0658d03b951d94272d93b57b83eefde2bc8a9a87757e42ec4dfff96fb87"), looks := true }, kinds := [], alts := [], laidByText := true, laidKinds := [.data, .data, .data, .data, .pinned, .pinned, .pinned], laidTests := true, laidLooks := .later }
def FnRenamedCardSaid : Prop := Claim7.holds Tryz.pinned (.plain (OpenSpec.ofChange fnRenamedSpec)) fnRenamedCard

/-- THE TIED CARD OF 'laws.FnSolves'. -/
def fnSolvesCard : Claim7 := { stood := { row := fnSolvesRow, standIns := [], harness := (true, "6abeb0658d03b951d94272d93b57b83eefde2bc8a9a87757e42ec4dfff96fb87"), looks := true }, kinds := [], alts := [], laidByText := true, laidKinds := [.data, .data, .data, .data, .pinned, .pinned, .pinned], laidTests := true, laidLooks := .later }
def FnSolvesCardSaid : Prop := Claim7.holds Tryz.pinned (.plain (OpenSpec.ofChange fnSolvesSpec)) fnSolvesCard

/-- THE TIED CARD OF 'laws.FnSymmetric'. -/
def fnSymmetricCard : Claim7 := { stood := { row := fnSymmetricRow, standIns := [], harness := (true, "6abeb0658d03b951d94272d93b57b83eefde2bc8a9a87757e42ec4dfff96fb87"), looks := true }, kinds := [], alts := [], laidByText := true, laidKinds := [.data, .data, .data, .data, .pinned, .pinned, .pinned], laidTests := true, laidLooks := .later }
def FnSymmetricCardSaid : Prop := Claim7.holds Tryz.pinned (.plain (OpenSpec.ofChange fnSymmetricSpec)) fnSymmetricCard

/-- THE TIED CARD OF 'laws.FnUnifyAssign'. -/
def fnUnifyAssignCard : Claim7 := { stood := { row := fnUnifyAssignRow, standIns := [], harness := (true, "6abeb0658d03b951d94272d93b57b83eefde2bc8a9a87757e42ec4dfff96fb87"), looks := true }, kinds := [], alts := [], laidByText := true, laidKinds := [.data, .data, .data, .data, .pinned, .pinned, .pinned], laidTests := true, laidLooks := .later }
def FnUnifyAssignCardSaid : Prop := Claim7.holds Tryz.pinned (.plain (OpenSpec.ofChange fnUnifyAssignSpec)) fnUnifyAssignCard

/-- THE TIED CARD OF 'laws.FnUnifyExact'. -/
def fnUnifyExactCard : Claim7 := { stood := { row := fnUnifyExactRow, standIns := [], harness := (true, "6abeb0658d03b951d94272d93b57b83eefde2bc8a9a87757e42ec4dfff96fb87"), looks := true }, kinds := [], alts := [], laidByText := true, laidKinds := [.data, .data, .data, .data, .pinned, .pinned, .pinned], laidTests := true, laidLooks := .later }
def FnUnifyExactCardSaid : Prop := Claim7.holds Tryz.pinned (.plain (OpenSpec.ofChange fnUnifyExactSpec)) fnUnifyExactCard

/-- THE TIED CARD OF 'laws.FnUnifyLoose'. -/
def fnUnifyLooseCard : Claim7 := { stood := { row := fnUnifyLooseRow, standIns := [], harness := (true, "6abeb0658d03b951d94272d93b57b83eefde2bc8a9a87757e42ec4dfff96fb87"), looks := true }, kinds := [], alts := [], laidByText := true, laidKinds := [.data, .data, .data, .data, .pinned, .pinned, .pinned], laidTests := true, laidLooks := .later }
def FnUnifyLooseCardSaid : Prop := Claim7.holds Tryz.pinned (.plain (OpenSpec.ofChange fnUnifyLooseSpec)) fnUnifyLooseCard

/-- THE TIED CARD OF 'laws.FnTwice'. -/
def fnTwiceCard : Claim7 := { stood := { row := fnTwiceRow, standIns := [], harness := (true, "6abeb0658d03b951d94272d93b57b83eefde2bc8a9a87757e42ec4dfff96fb87"), looks := true }, kinds := [], alts := [], laidByText := true, laidKinds := [.data, .data, .data, .data, .pinned, .pinned, .pinned], laidTests := true, laidLooks := .later }
def FnTwiceCardSaid : Prop := Claim7.holds Tryz.pinned (.plain (OpenSpec.ofChange fnTwiceSpec)) fnTwiceCard

/-- THE TIED CARD OF 'laws.FnTwiceAssign'. -/
def fnTwiceAssignCard : Claim7 := { stood := { row := fnTwiceAssignRow, standIns := [], harness := (true, "6abeb0658d03b951d94272d93b57b83eefde2bc8a9a87757e42ec4dfff96fb87"), looks := true }, kinds := [], alts := [], laidByText := true, laidKinds := [.data, .data, .data, .data, .pinned, .pinned, .pinned], laidTests := true, laidLooks := .later }
def FnTwiceAssignCardSaid : Prop := Claim7.holds Tryz.pinned (.plain (OpenSpec.ofChange fnTwiceAssignSpec)) fnTwiceAssignCard

/-- THE TIED CARD OF 'laws.FnTwiceOne'. -/
def fnTwiceOneCard : Claim7 := { stood := { row := fnTwiceOneRow, standIns := [], harness := (true, "6abeb0658d03b951d94272d93b57b83eefde2bc8a9a87757e42ec4dfff96fb87"), looks := true }, kinds := [], alts := [], laidByText := true, laidKinds := [.data, .data, .data, .data, .pinned, .pinned, .pinned], laidTests := true, laidLooks := .later }
def FnTwiceOneCardSaid : Prop := Claim7.holds Tryz.pinned (.plain (OpenSpec.ofChange fnTwiceOneSpec)) fnTwiceOneCard

/-- THE SECOND FORM's CARD OF 'laws.FnDefined'. -/
def fnDefinedUptoCard : Claim7 := { stood := { row := fnDefinedUptoRow, standIns := [], harness := (true, "6abeb0658d03b951d94272d93b57b83eefde2bc8a9a87757e42ec4dfff96fb87"), looks := true }, kinds := [], alts := [], laidByText := true, laidKinds := [.data, .data, .data, .data, .pinned, .pinned, .pinned], laidTests := true, laidLooks := .later }
def FnDefinedUptoCardSaid : Prop := Claim7.holds Tryz.pinned (.plain (OpenSpec.upto fnDefinedSpec)) fnDefinedUptoCard

/-- THE SECOND FORM's CARD OF 'laws.FnModes'. -/
def fnModesUptoCard : Claim7 := { stood := { row := fnModesUptoRow, standIns := [], harness := (true, "6abeb0658d03b951d94272d93b57b83eefde2bc8a9a87757e42ec4dfff96fb87"), looks := true }, kinds := [], alts := [], laidByText := true, laidKinds := [.data, .data, .data, .data, .pinned, .pinned, .pinned], laidTests := true, laidLooks := .later }
def FnModesUptoCardSaid : Prop := Claim7.holds Tryz.pinned (.plain (OpenSpec.upto fnModesSpec)) fnModesUptoCard

/-- THE SECOND FORM's CARD OF 'laws.FnRenamed'. -/
def fnRenamedUptoCard : Claim7 := { stood := { row := fnRenamedUptoRow, standIns := [], harness := (true, "6abeb0658d03b951d94272d93b57b83eefde2bc8a9a87757e42ec4dfff96fb87"), looks := true }, kinds := [], alts := [], laidByText := true, laidKinds := [.data, .data, .data, .data, .pinned, .pinned, .pinned], laidTests := true, laidLooks := .later }
def FnRenamedUptoCardSaid : Prop := Claim7.holds Tryz.pinned (.plain (OpenSpec.upto fnRenamedSpec)) fnRenamedUptoCard

/-- THE SECOND FORM's CARD OF 'laws.FnSolves'. -/
def fnSolvesUptoCard : Claim7 := { stood := { row := fnSolvesUptoRow, standIns := [], harness := (true, "6abeb0658d03b951d94272d93b57b83eefde2bc8a9a87757e42ec4dfff96fb87"), looks := true }, kinds := [], alts := [], laidByText := true, laidKinds := [.data, .data, .data, .data, .pinned, .pinned, .pinned], laidTests := true, laidLooks := .later }
def FnSolvesUptoCardSaid : Prop := Claim7.holds Tryz.pinned (.plain (OpenSpec.upto fnSolvesSpec)) fnSolvesUptoCard

/-- THE SECOND FORM's CARD OF 'laws.FnSymmetric'. -/
def fnSymmetricUptoCard : Claim7 := { stood := { row := fnSymmetricUptoRow, standIns := [], harness := (true, "6abeb0658d03b951d94272d93b57b83eefde2bc8a9a87757e42ec4dfff96fb87"), looks := true }, kinds := [], alts := [], laidByText := true, laidKinds := [.data, .data, .data, .data, .pinned, .pinned, .pinned], laidTests := true, laidLooks := .later }
def FnSymmetricUptoCardSaid : Prop := Claim7.holds Tryz.pinned (.plain (OpenSpec.upto fnSymmetricSpec)) fnSymmetricUptoCard

/-- THE SECOND FORM's CARD OF 'laws.FnUnifyAssign'. -/
def fnUnifyAssignUptoCard : Claim7 := { stood := { row := fnUnifyAssignUptoRow, standIns := [], harness := (true, "6abeb0658d03b951d94272d93b57b83eefde2bc8a9a87757e42ec4dfff96fb87"), looks := true }, kinds := [], alts := [], laidByText := true, laidKinds := [.data, .data, .data, .data, .pinned, .pinned, .pinned], laidTests := true, laidLooks := .later }
def FnUnifyAssignUptoCardSaid : Prop := Claim7.holds Tryz.pinned (.plain (OpenSpec.upto fnUnifyAssignSpec)) fnUnifyAssignUptoCard

/-- THE SECOND FORM's CARD OF 'laws.FnUnifyExact'. -/
def fnUnifyExactUptoCard : Claim7 := { stood := { row := fnUnifyExactUptoRow, standIns := [], harness := (true, "6abeb0658d03b951d94272d93b57b83eefde2bc8a9a87757e42ec4dfff96fb87"), looks := true }, kinds := [], alts := [], laidByText := true, laidKinds := [.data, .data, .data, .data, .pinned, .pinned, .pinned], laidTests := true, laidLooks := .later }
def FnUnifyExactUptoCardSaid : Prop := Claim7.holds Tryz.pinned (.plain (OpenSpec.upto fnUnifyExactSpec)) fnUnifyExactUptoCard

/-- THE SECOND FORM's CARD OF 'laws.FnUnifyLoose'. -/
def fnUnifyLooseUptoCard : Claim7 := { stood := { row := fnUnifyLooseUptoRow, standIns := [], harness := (true, "6abeb0658d03b951d94272d93b57b83eefde2bc8a9a87757e42ec4dfff96fb87"), looks := true }, kinds := [], alts := [], laidByText := true, laidKinds := [.data, .data, .data, .data, .pinned, .pinned, .pinned], laidTests := true, laidLooks := .later }
def FnUnifyLooseUptoCardSaid : Prop := Claim7.holds Tryz.pinned (.plain (OpenSpec.upto fnUnifyLooseSpec)) fnUnifyLooseUptoCard

/-- THE SECOND FORM's CARD OF 'laws.FnTwice'. -/
def fnTwiceUptoCard : Claim7 := { stood := { row := fnTwiceUptoRow, standIns := [], harness := (true, "6abeb0658d03b951d94272d93b57b83eefde2bc8a9a87757e42ec4dfff96fb87"), looks := true }, kinds := [], alts := [], laidByText := true, laidKinds := [.data, .data, .data, .data, .pinned, .pinned, .pinned], laidTests := true, laidLooks := .later }
def FnTwiceUptoCardSaid : Prop := Claim7.holds Tryz.pinned (.plain (OpenSpec.upto fnTwiceSpec)) fnTwiceUptoCard

/-- THE SECOND FORM's CARD OF 'laws.FnTwiceAssign'. -/
def fnTwiceAssignUptoCard : Claim7 := { stood := { row := fnTwiceAssignUptoRow, standIns := [], harness := (true, "6abeb0658d03b951d94272d93b57b83eefde2bc8a9a87757e42ec4dfff96fb87"), looks := true }, kinds := [], alts := [], laidByText := true, laidKinds := [.data, .data, .data, .data, .pinned, .pinned, .pinned], laidTests := true, laidLooks := .later }
def FnTwiceAssignUptoCardSaid : Prop := Claim7.holds Tryz.pinned (.plain (OpenSpec.upto fnTwiceAssignSpec)) fnTwiceAssignUptoCard

/-- THE SECOND FORM's CARD OF 'laws.FnTwiceOne'. -/
def fnTwiceOneUptoCard : Claim7 := { stood := { row := fnTwiceOneUptoRow, standIns := [], harness := (true, "6abeb0658d03b951d94272d93b57b83eefde2bc8a9a87757e42ec4dfff96fb87"), looks := true }, kinds := [], alts := [], laidByText := true, laidKinds := [.data, .data, .data, .data, .pinned, .pinned, .pinned], laidTests := true, laidLooks := .later }
def FnTwiceOneUptoCardSaid : Prop := Claim7.holds Tryz.pinned (.plain (OpenSpec.upto fnTwiceOneSpec)) fnTwiceOneUptoCard
end Rows
end Go.Proofs.YtpekidjfbinekaaGreatDoor
