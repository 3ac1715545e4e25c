/-
  FnZMulti: for every list of writers and every text the law answers true: the tied card. Conditions: the listed package-level variables hold what the program's text lays in them (tied by the card to the pruned copy of the project).
-/
import Derived.Test.YtchmhdmapknmfaaGreatDoorVh
import Derived.Test.YtchmhdmapknmfaaGreatDoorCards
import Derived.Test.YtchmhdmapknmfaaGreatDoorTie
import Derived.SevenTiedAt
namespace Go.Proofs.YtchmhdmapknmfaaGreatDoor
open Go.RowKit Go.ChangeShapes Go.WideShapes Go.ChangeAt

set_option maxRecDepth 100000 in
set_option maxHeartbeats 4000000 in
theorem multi_holds : Rows.FnZMultiCardSaid :=
  Claim7.holds_tied_plain_at .later [] [.data, .data, .data, .data, .data, .data] true (true, "78033f125067c407e521d137a23db16a4179e231ea285f315e98d800f95779ca") true
    multi_row (fun _ h => by cases h) (by as_aux_lemma => kernel_rfl) (fun _ h => by cases h) fnZMulti_row_tie rfl ⟨rfl, rfl⟩ (by as_aux_lemma => kernel_rfl) rfl
    (fun f fn hf hfn => by
      obtain rfl : f = 10 := Option.some.inj ((show Tryz.prog.funcNamed "given.example/pub-quill/laws.FnZMulti" = some 10 by as_aux_lemma => kernel_rfl).symm.trans hf) |>.symm
      obtain rfl : fn = Tryz.f10 := (Option.some.inj (Tryz.func10.symm.trans hfn)).symm
      exact ⟨by as_aux_lemma => kernel_rfl, fun j t ht => by
        rw [Tryz.params10] at ht
        have hm : t ∈ [48, 9] := by simpa using Array.mem_of_getElem? ht
        have hall : ([48, 9].all fun u => !Tryz.prog.wantsStandIn u) = true := by as_aux_lemma => kernel_rfl
        exact (show Tryz.prog.wantsStandIn t = false by simpa using List.all_eq_true.1 hall t hm)⟩)
    (by as_aux_lemma => kernel_rfl)
#print axioms multi_holds
end Go.Proofs.YtchmhdmapknmfaaGreatDoor
