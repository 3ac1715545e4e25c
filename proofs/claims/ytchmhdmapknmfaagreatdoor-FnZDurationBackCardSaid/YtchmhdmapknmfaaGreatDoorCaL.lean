/-
  FnZSafe: for every text the law answers true, the text reads afterwards as before: the row, lifted from the walks, and its tied card. Conditions: the listed package-level variables hold what the program's text lays in them (tied).
-/
import Derived.Test.YtchmhdmapknmfaaGreatDoorCa
import Derived.Test.YtchmhdmapknmfaaGreatDoorLa
import Derived.SevenTiedAt
namespace Go.Proofs.YtchmhdmapknmfaaGreatDoor
open Go.RowKit Go.ChangeShapes Go.WideShapes Go.ChangeAt
open Go.ChangeMaps (open_string shut_string)

set_option maxRecDepth 100000 in
theorem utf8_of_reads {W : World} (h1 : Lib.VarReads Tryz.prog W "unicode/utf8.first" Lib.firstData) (h2 : Lib.VarReads Tryz.prog W "unicode/utf8.acceptRanges" Lib.acceptData) : Lib.Utf8Tabs 1 2 W :=
  Go.Proofs.utf8Tabs_of_reads Tryz.lays260 ⟨by kernel_rfl, by kernel_rfl, by kernel_rfl, by kernel_rfl, by kernel_rfl, by kernel_rfl, by kernel_rfl⟩ h1 h2

set_option maxRecDepth 100000 in
theorem safe_lifted (os : Os) (started : os.Started) (H : Type) (enc : TypeId × Value → H) :
    ReturnsInHanded {} Tryz.checked os 5 .any (fun w args => (Rows.fnZSafeSpec.pre enc Tryz.prog Tryz.f5 [] false w args ∧ laidMetH Tryz.prog Rows.fnZSafeRow.laid w) ∧ sizedMet enc Tryz.prog Tryz.f5 (OpenSpec.ofChange Rows.fnZSafeSpec) false w args)
      (Rows.fnZSafeSpec.post enc Tryz.prog Tryz.f5 false true false false) := by
  refine returnsInHanded_of_change_and (C := Tryz.checked) (X := fun w _ => laidMetH Tryz.prog Rows.fnZSafeRow.laid w) (fun _ _ _ hh h => h.of_heap hh) Tryz.own started (by kernel_rfl) Tryz.func5
    (ChangeSpec.witness_shaped (enc := enc) (C := Tryz.checked) (os := os) (X := fun w _ => laidMetH Tryz.prog Rows.fnZSafeRow.laid w) false (World.laidAll Tryz.prog os Rows.fnZSafeRow.laid) #[.string ⟨#[]⟩] 8 (World.laidAll_os _ _ _)
      (World.shaped_of_ZipB (by kernel_rfl) (by kernel_rfl)) (by kernel_rfl) (by kernel_rfl) (by kernel_rfl)
      (by rw [MakeChecks.laidMetH_plain _ _ _ (by kernel_rfl)]; exact laidMet_laidAll _ (by kernel_rfl) (by kernel_rfl))) ?_
  intro W base args ds gs before hval0 hW _ _ hL _
  have hval : ∀ (j : Nat) t v, Tryz.f5.params[j]? = some t → args[j]? = some v → Value.okWide Tryz.prog W .any base t v := hval0
  have hW' := hW
  obtain ⟨p, q, hA0, hV, rfl, _, _⟩ := hW
  have hA : DataW.TrodAll enc Tryz.prog W 0 (fun _ => true) true Tryz.f5.params.toList args.toList ds p := hA0
  rw [Tryz.params5] at hA hval
  obtain ⟨v0, d0, rfl, rfl, h0⟩ := trodAll_one hA
  obtain ⟨s, rfl, rfl, rfl, ws⟩ := open_string Tryz.underlying9 (hval 0 9 v0 rfl rfl) h0
  obtain ⟨g1, g2, g3, rfl⟩ := vars3 hV
  rw [MakeChecks.laidMetH_plain _ _ _ (by kernel_rfl)] at hL
  have hp : Pow W := pow_of_reads (pow10_data ▸ Lib.laidMet.reads hL (by simp [Rows.fnZSafeRow]))
  have hT : Lib.Utf8Tabs 1 2 W := utf8_of_reads (first_data ▸ Lib.laidMet.reads hL (by simp [Rows.fnZSafeRow])) (accept_data ▸ Lib.laidMet.reads hL (by simp [Rows.fnZSafeRow]))
  have hH : 11 ≤ W.heap.size := heap11 (d := Rows.laid_math_bits_deBruijn64tab) (Lib.laidMet.reads hL (by simp [Rows.fnZSafeRow]))
  have key : Calls Tryz.prog 5 #[.string s] W fun r w' => r = .returned (.bool true) ∧ Below W.heap.size W w' := by
    by_cases h1 : s.size ≤ 2000
    · exact safe_small s W hT hH h1
    · by_cases h2 : s.size ≤ 2147483647
      · exact safe_large s W hp hH (by omega) h2
      · exact safe_huge s W ws (by omega)
  refine key.mono fun e W' ⟨he, hb⟩ => ?_
  subst he
  exact ⟨_, rfl, _, _, _, [], [], q, hW', trodAll_mk1 (shut_bool Tryz.underlying4 _), trodAll_mk1 (shut_string Tryz.underlying9 ws), hb.trodVars Tryz.laidOut (by kernel_rfl) hV, hb.frame _, fun h => by cases h⟩

end Go.Proofs.YtchmhdmapknmfaaGreatDoor
