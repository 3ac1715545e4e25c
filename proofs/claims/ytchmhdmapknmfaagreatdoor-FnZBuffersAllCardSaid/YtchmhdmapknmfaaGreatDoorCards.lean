/-
  DERIVED. GIVEN WITH THE SEED: THE CARDS: each row of YtchmhdmapknmfaaGreatDoorRows.lean that lists a variable, with what it lists TIED to the program's text (the seventh form; the later family's looks); each row that meets fmt, with fmt's text TOLD by the authors' own Lean function (tested against real Go, not proved from fmt's source: count such statements apart). THE CARD IS WHAT COUNTS. Prove the row's statement (the work); the ties are given (YtchmhdmapknmfaaGreatDoorTie.lean); close each card by the builder's one call (the guide's Derived/Test/ToyasCard.lean, 'card_holds'). Laid BY PROGRAM, IN A SANDBOX (cutbox-door.mjs). By AI agents, Wed Nov 11 2026. No macro, syntax, notation, axiom, sorry.
-/
import Derived.Test.YtchmhdmapknmfaaGreatDoorRows
import GoSem.ClaimSeven
namespace Go.Proofs.YtchmhdmapknmfaaGreatDoor
namespace Rows

/-- THE TIED CARD OF 'laws.FnZDurationBack'. -/
def fnZDurationBackCard : Claim7 := { stood := { row := fnZDurationBackRow, standIns := [], harness := (true, "78033f125067c407e521d137a23db16a4179e231ea285f315e98d800f95779ca"), looks := true }, kinds := [], alts := [], laidByText := true, laidKinds := [.data, .data, .data, .data, .data, .data, .data, .pinned], laidTests := true, laidLooks := .later }
def FnZDurationBackCardSaid : Prop := Claim7.holds Tryz.pinned (.plain (OpenSpec.ofChange fnZDurationBackSpec)) fnZDurationBackCard

/-- THE TIED CARD OF 'laws.FnZPresets'. -/
def fnZPresetsCard : Claim7 := { stood := { row := fnZPresetsRow, standIns := [], harness := (true, "78033f125067c407e521d137a23db16a4179e231ea285f315e98d800f95779ca"), looks := true }, kinds := [], alts := [], laidByText := true, laidKinds := [.data, .data, .data, .data, .data, .data], laidTests := true, laidLooks := .later }
def FnZPresetsCardSaid : Prop := Claim7.holds Tryz.pinned (.plain (OpenSpec.ofChange fnZPresetsSpec)) fnZPresetsCard

/-- THE TIED CARD OF 'laws.FnZSafe'. -/
def fnZSafeCard : Claim7 := { stood := { row := fnZSafeRow, standIns := [], harness := (true, "78033f125067c407e521d137a23db16a4179e231ea285f315e98d800f95779ca"), looks := true }, kinds := [], alts := [], laidByText := true, laidKinds := [.data, .data, .data, .data, .data, .data, .data, .pinned], laidTests := true, laidLooks := .later }
def FnZSafeCardSaid : Prop := Claim7.holds Tryz.pinned (.plain (OpenSpec.ofChange fnZSafeSpec)) fnZSafeCard

/-- THE TIED CARD OF 'laws.FnZLayoutParts'. -/
def fnZLayoutPartsCard : Claim7 := { stood := { row := fnZLayoutPartsRow, standIns := [], harness := (true, "78033f125067c407e521d137a23db16a4179e231ea285f315e98d800f95779ca"), looks := true }, kinds := [], alts := [], laidByText := true, laidKinds := [.data, .data, .data, .data, .data, .data], laidTests := true, laidLooks := .later }
def FnZLayoutPartsCardSaid : Prop := Claim7.holds Tryz.pinned (.plain (OpenSpec.ofChange fnZLayoutPartsSpec)) fnZLayoutPartsCard

/-- THE TIED CARD OF 'laws.FnZLayouts'. -/
def fnZLayoutsCard : Claim7 := { stood := { row := fnZLayoutsRow, standIns := [], harness := (true, "78033f125067c407e521d137a23db16a4179e231ea285f315e98d800f95779ca"), looks := true }, kinds := [], alts := [], laidByText := true, laidKinds := [.data, .data, .data, .data, .data, .data, .data], laidTests := true, laidLooks := .later }
def FnZLayoutsCardSaid : Prop := Claim7.holds Tryz.pinned (.plain (OpenSpec.ofChange fnZLayoutsSpec)) fnZLayoutsCard

/-- THE TIED CARD OF 'laws.FnZTimeOrder'. -/
def fnZTimeOrderCard : Claim7 := { stood := { row := fnZTimeOrderRow, standIns := [], harness := (true, "78033f125067c407e521d137a23db16a4179e231ea285f315e98d800f95779ca"), looks := true }, kinds := [], alts := [], laidByText := true, laidKinds := [.data, .data, .data, .data, .data, .data], laidTests := true, laidLooks := .later }
def FnZTimeOrderCardSaid : Prop := Claim7.holds Tryz.pinned (.plain (OpenSpec.ofChange fnZTimeOrderSpec)) fnZTimeOrderCard

/-- THE TIED CARD OF 'laws.FnZNamed'. -/
def fnZNamedCard : Claim7 := { stood := { row := fnZNamedRow, standIns := [], harness := (true, "78033f125067c407e521d137a23db16a4179e231ea285f315e98d800f95779ca"), looks := true }, kinds := [], alts := [], laidByText := true, laidKinds := [.data, .data, .data, .data, .data, .data], laidTests := true, laidLooks := .later }
def FnZNamedCardSaid : Prop := Claim7.holds Tryz.pinned (.plain (OpenSpec.ofChange fnZNamedSpec)) fnZNamedCard

/-- THE TIED CARD OF 'laws.FnZMulti'. -/
def fnZMultiCard : Claim7 := { stood := { row := fnZMultiRow, standIns := [], harness := (true, "78033f125067c407e521d137a23db16a4179e231ea285f315e98d800f95779ca"), looks := true }, kinds := [], alts := [], laidByText := true, laidKinds := [.data, .data, .data, .data, .data, .data], laidTests := true, laidLooks := .later }
def FnZMultiCardSaid : Prop := Claim7.holds Tryz.pinned (.plain (OpenSpec.ofChange fnZMultiSpec)) fnZMultiCard

/-- THE TIED CARD OF 'laws.FnZBuffers'. -/
def fnZBuffersCard : Claim7 := { stood := { row := fnZBuffersRow, standIns := [], harness := (true, "78033f125067c407e521d137a23db16a4179e231ea285f315e98d800f95779ca"), looks := true }, kinds := [], alts := [], laidByText := true, laidKinds := [.data, .data, .data, .data, .data, .data, .sentinel], laidTests := true, laidLooks := .later }
def FnZBuffersCardSaid : Prop := Claim7.holds Tryz.pinned (.plain (OpenSpec.ofChange fnZBuffersSpec)) fnZBuffersCard

/-- THE TIED CARD OF 'laws.FnZBuffersAll'. -/
def fnZBuffersAllCard : Claim7 := { stood := { row := fnZBuffersAllRow, standIns := [], harness := (true, "78033f125067c407e521d137a23db16a4179e231ea285f315e98d800f95779ca"), looks := true }, kinds := [], alts := [], laidByText := true, laidKinds := [.data, .data, .data, .data, .data, .data, .sentinel], laidTests := true, laidLooks := .later }
def FnZBuffersAllCardSaid : Prop := Claim7.holds Tryz.pinned (.plain (OpenSpec.ofChange fnZBuffersAllSpec)) fnZBuffersAllCard

/-- THE SECOND FORM's CARD OF 'laws.FnZDurationBack'. -/
def fnZDurationBackUptoCard : Claim7 := { stood := { row := fnZDurationBackUptoRow, standIns := [], harness := (true, "78033f125067c407e521d137a23db16a4179e231ea285f315e98d800f95779ca"), looks := true }, kinds := [], alts := [], laidByText := true, laidKinds := [.data, .data, .data, .data, .data, .data, .data, .pinned], laidTests := true, laidLooks := .later }
def FnZDurationBackUptoCardSaid : Prop := Claim7.holds Tryz.pinned (.plain (OpenSpec.upto fnZDurationBackSpec)) fnZDurationBackUptoCard

/-- THE SECOND FORM's CARD OF 'laws.FnZPresets'. -/
def fnZPresetsUptoCard : Claim7 := { stood := { row := fnZPresetsUptoRow, standIns := [], harness := (true, "78033f125067c407e521d137a23db16a4179e231ea285f315e98d800f95779ca"), looks := true }, kinds := [], alts := [], laidByText := true, laidKinds := [.data, .data, .data, .data, .data, .data], laidTests := true, laidLooks := .later }
def FnZPresetsUptoCardSaid : Prop := Claim7.holds Tryz.pinned (.plain (OpenSpec.upto fnZPresetsSpec)) fnZPresetsUptoCard

/-- THE SECOND FORM's CARD OF 'laws.FnZSafe'. -/
def fnZSafeUptoCard : Claim7 := { stood := { row := fnZSafeUptoRow, standIns := [], harness := (true, "78033f125067c407e521d137a23db16a4179e231ea285f315e98d800f95779ca"), looks := true }, kinds := [], alts := [], laidByText := true, laidKinds := [.data, .data, .data, .data, .data, .data, .data, .pinned], laidTests := true, laidLooks := .later }
def FnZSafeUptoCardSaid : Prop := Claim7.holds Tryz.pinned (.plain (OpenSpec.upto fnZSafeSpec)) fnZSafeUptoCard

/-- THE SECOND FORM's CARD OF 'laws.FnZLayoutParts'. -/
def fnZLayoutPartsUptoCard : Claim7 := { stood := { row := fnZLayoutPartsUptoRow, standIns := [], harness := (true, "78033f125067c407e521d137a23db16a4179e231ea285f315e98d800f95779ca"), looks := true }, kinds := [], alts := [], laidByText := true, laidKinds := [.data, .data, .data, .data, .data, .data], laidTests := true, laidLooks := .later }
def FnZLayoutPartsUptoCardSaid : Prop := Claim7.holds Tryz.pinned (.plain (OpenSpec.upto fnZLayoutPartsSpec)) fnZLayoutPartsUptoCard

/-- THE SECOND FORM's CARD OF 'laws.FnZLayouts'. -/
def fnZLayoutsUptoCard : Claim7 := { stood := { row := fnZLayoutsUptoRow, standIns := [], harness := (true, "78033f125067c407e521d137a23db16a4179e231ea285f315e98d800f95779ca"), looks := true }, kinds := [], alts := [], laidByText := true, laidKinds := [.data, .data, .data, .data, .data, .data, .data], laidTests := true, laidLooks := .later }
def FnZLayoutsUptoCardSaid : Prop := Claim7.holds Tryz.pinned (.plain (OpenSpec.upto fnZLayoutsSpec)) fnZLayoutsUptoCard

/-- THE SECOND FORM's CARD OF 'laws.FnZTimeOrder'. -/
def fnZTimeOrderUptoCard : Claim7 := { stood := { row := fnZTimeOrderUptoRow, standIns := [], harness := (true, "78033f125067c407e521d137a23db16a4179e231ea285f315e98d800f95779ca"), looks := true }, kinds := [], alts := [], laidByText := true, laidKinds := [.data, .data, .data, .data, .data, .data], laidTests := true, laidLooks := .later }
def FnZTimeOrderUptoCardSaid : Prop := Claim7.holds Tryz.pinned (.plain (OpenSpec.upto fnZTimeOrderSpec)) fnZTimeOrderUptoCard

/-- THE SECOND FORM's CARD OF 'laws.FnZNamed'. -/
def fnZNamedUptoCard : Claim7 := { stood := { row := fnZNamedUptoRow, standIns := [], harness := (true, "78033f125067c407e521d137a23db16a4179e231ea285f315e98d800f95779ca"), looks := true }, kinds := [], alts := [], laidByText := true, laidKinds := [.data, .data, .data, .data, .data, .data], laidTests := true, laidLooks := .later }
def FnZNamedUptoCardSaid : Prop := Claim7.holds Tryz.pinned (.plain (OpenSpec.upto fnZNamedSpec)) fnZNamedUptoCard

/-- THE SECOND FORM's CARD OF 'laws.FnZMulti'. -/
def fnZMultiUptoCard : Claim7 := { stood := { row := fnZMultiUptoRow, standIns := [], harness := (true, "78033f125067c407e521d137a23db16a4179e231ea285f315e98d800f95779ca"), looks := true }, kinds := [], alts := [], laidByText := true, laidKinds := [.data, .data, .data, .data, .data, .data], laidTests := true, laidLooks := .later }
def FnZMultiUptoCardSaid : Prop := Claim7.holds Tryz.pinned (.plain (OpenSpec.upto fnZMultiSpec)) fnZMultiUptoCard

/-- THE SECOND FORM's CARD OF 'laws.FnZBuffers'. -/
def fnZBuffersUptoCard : Claim7 := { stood := { row := fnZBuffersUptoRow, standIns := [], harness := (true, "78033f125067c407e521d137a23db16a4179e231ea285f315e98d800f95779ca"), looks := true }, kinds := [], alts := [], laidByText := true, laidKinds := [.data, .data, .data, .data, .data, .data, .sentinel], laidTests := true, laidLooks := .later }
def FnZBuffersUptoCardSaid : Prop := Claim7.holds Tryz.pinned (.plain (OpenSpec.upto fnZBuffersSpec)) fnZBuffersUptoCard

/-- THE SECOND FORM's CARD OF 'laws.FnZBuffersAll'. -/
def fnZBuffersAllUptoCard : Claim7 := { stood := { row := fnZBuffersAllUptoRow, standIns := [], harness := (true, "78033f125067c407e521d137a23db16a4179e231ea285f315e98d800f95779ca"), looks := true }, kinds := [], alts := [], laidByText := true, laidKinds := [.data, .data, .data, .data, .data, .data, .sentinel], laidTests := true, laidLooks := .later }
def FnZBuffersAllUptoCardSaid : Prop := Claim7.holds Tryz.pinned (.plain (OpenSpec.upto fnZBuffersAllSpec)) fnZBuffersAllUptoCard
end Rows
end Go.Proofs.YtchmhdmapknmfaaGreatDoor
