/-
  FnZBuffersAll: for every size and all operations the law answers true: the tied card. Conditions: the listed package-level variables hold what the program's text lays in them (tied by the card to the pruned copy of the project).
-/
import Derived.Test.YtchmhdmapknmfaaGreatDoorWt
import Derived.Test.YtchmhdmapknmfaaGreatDoorCards
import Derived.Test.YtchmhdmapknmfaaGreatDoorTie
import Derived.SevenTiedAt
namespace Go.Proofs.YtchmhdmapknmfaaGreatDoor
open Go.RowKit Go.ChangeShapes Go.WideShapes Go.ChangeAt

set_option maxRecDepth 100000 in
set_option maxHeartbeats 4000000 in
theorem buffersAll_holds : Rows.FnZBuffersAllCardSaid :=
  Claim7.holds_tied_plain_at .later [] [.data, .data, .data, .data, .data, .data, .sentinel] true (true, "78033f125067c407e521d137a23db16a4179e231ea285f315e98d800f95779ca") true
    all_row (fun _ h => by cases h) (by as_aux_lemma => kernel_rfl) (fun _ h => by cases h) fnZBuffersAll_row_tie rfl ⟨rfl, rfl⟩ (by as_aux_lemma => kernel_rfl) rfl
    (fun f fn hf hfn => by
      obtain rfl : f = 12 := Option.some.inj ((show Tryz.prog.funcNamed "given.example/pub-quill/laws.FnZBuffersAll" = some 12 by as_aux_lemma => kernel_rfl).symm.trans hf) |>.symm
      obtain rfl : fn = Tryz.f12 := (Option.some.inj (Tryz.func12.symm.trans hfn)).symm
      exact ⟨by as_aux_lemma => kernel_rfl, fun j t ht => by
        rw [Tryz.params12] at ht
        have hm : t ∈ [3, 56] := by simpa using Array.mem_of_getElem? ht
        have hall : ([3, 56].all fun u => !Tryz.prog.wantsStandIn u) = true := by as_aux_lemma => kernel_rfl
        exact (show Tryz.prog.wantsStandIn t = false by simpa using List.all_eq_true.1 hall t hm)⟩)
    (by as_aux_lemma => kernel_rfl)
#print axioms buffersAll_holds
end Go.Proofs.YtchmhdmapknmfaaGreatDoor
