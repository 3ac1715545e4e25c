/-
  FnZNamed: for every list of texts the law answers true, and the list reads afterwards as before: the tied card. Conditions: the listed package-level variables hold what the program's text lays in them (tied by the card to the pruned copy of the project).
-/
import Derived.Test.YtchmhdmapknmfaaGreatDoorNaR
import Derived.Test.YtchmhdmapknmfaaGreatDoorCards
import Derived.Test.YtchmhdmapknmfaaGreatDoorTie
import Derived.SevenTiedAt
namespace Go.Proofs.YtchmhdmapknmfaaGreatDoor
open Go.RowKit Go.ChangeShapes Go.WideShapes Go.ChangeAt

set_option maxRecDepth 100000 in
set_option maxHeartbeats 4000000 in
theorem named_holds : Rows.FnZNamedCardSaid :=
  Claim7.holds_tied_plain_at .later [] [.data, .data, .data, .data, .data, .data] true (true, "78033f125067c407e521d137a23db16a4179e231ea285f315e98d800f95779ca") true
    named_row (fun _ h => by cases h) (by as_aux_lemma => kernel_rfl) (fun _ h => by cases h) fnZNamed_row_tie rfl ⟨rfl, rfl⟩ (by as_aux_lemma => kernel_rfl) rfl
    (fun f fn hf hfn => by
      obtain rfl : f = 9 := Option.some.inj ((show Tryz.prog.funcNamed "given.example/pub-quill/laws.FnZNamed" = some 9 by as_aux_lemma => kernel_rfl).symm.trans hf) |>.symm
      obtain rfl : fn = Tryz.f9 := (Option.some.inj (Tryz.func9.symm.trans hfn)).symm
      exact ⟨by as_aux_lemma => kernel_rfl, fun j t ht => by
        rw [Tryz.params9] at ht
        have hm : t ∈ [22] := by simpa using Array.mem_of_getElem? ht
        have hall : ([22].all fun u => !Tryz.prog.wantsStandIn u) = true := by as_aux_lemma => kernel_rfl
        exact (show Tryz.prog.wantsStandIn t = false by simpa using List.all_eq_true.1 hall t hm)⟩)
    (by as_aux_lemma => kernel_rfl)
#print axioms named_holds
end Go.Proofs.YtchmhdmapknmfaaGreatDoor
