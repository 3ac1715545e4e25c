/-
  Joined: Ug. (Joined by merge.py out of several texts.)
-/
import Derived.Test.YtchmhdmapknmfaaGreatDoorYh1
import Derived.Test.YtchmhdmapknmfaaGreatDoorCards
import Derived.Test.YtchmhdmapknmfaaGreatDoorTie
import Derived.SevenTiedAt

/-
  FnZTimeOrder: for every two moments at one place the law answers true: the tied card. Conditions: the listed package-level variables hold what the program's text lays in them (tied by the card to the pruned copy of the project).
-/
namespace Go.Proofs.YtchmhdmapknmfaaGreatDoor
open Go.RowKit Go.ChangeShapes Go.WideShapes Go.ChangeAt

set_option maxRecDepth 100000 in
set_option maxHeartbeats 4000000 in
theorem order_holds : Rows.FnZTimeOrderCardSaid :=
  Claim7.holds_tied_plain_at .later [] [.data, .data, .data, .data, .data, .data] true (true, "78033f125067c407e521d137a23db16a4179e231ea285f315e98d800f95779ca") true
    order_row (fun _ h => by cases h) (by as_aux_lemma => kernel_rfl) (fun _ h => by cases h) fnZTimeOrder_row_tie rfl ⟨rfl, rfl⟩ (by as_aux_lemma => kernel_rfl) rfl
    (fun f fn hf hfn => by
      obtain rfl : f = 8 := Option.some.inj ((show Tryz.prog.funcNamed "given.example/pub-quill/laws.FnZTimeOrder" = some 8 by as_aux_lemma => kernel_rfl).symm.trans hf) |>.symm
      obtain rfl : fn = Tryz.f8 := (Option.some.inj (Tryz.func8.symm.trans hfn)).symm
      exact ⟨by as_aux_lemma => kernel_rfl, fun j t ht => by
        rw [Tryz.params8] at ht
        have hm : t ∈ [39, 2] := by simpa using Array.mem_of_getElem? ht
        have hall : ([39, 2].all fun u => !Tryz.prog.wantsStandIn u) = true := by as_aux_lemma => kernel_rfl
        exact (show Tryz.prog.wantsStandIn t = false by simpa using List.all_eq_true.1 hall t hm)⟩)
    (by as_aux_lemma => kernel_rfl)
#print axioms order_holds
end Go.Proofs.YtchmhdmapknmfaaGreatDoor
