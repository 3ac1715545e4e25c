/-
  FnZBuffersAll: the row, out of its lift.
-/
import Derived.Test.YtchmhdmapknmfaaGreatDoorWs
import Derived.Test.YtchmhdmapknmfaaGreatDoorF12
namespace Go.Proofs.YtchmhdmapknmfaaGreatDoor
open Go.RowKit Go.ChangeShapes Go.WideShapes Go.ChangeAt

set_option maxRecDepth 100000 in
set_option maxHeartbeats 4000000 in
theorem all_row : Rows.FnZBuffersAllSaid :=
  OpenClaim.holds_of_wide 12 Tryz.f12 rfl rfl rfl rfl rfl rfl rfl ⟨rfl, rfl, rfl, rfl, rfl⟩ rfl rfl rfl rfl rfl (by as_aux_lemma => kernel_rfl) Tryz.func12 F12.facts
    (of_decide_eq_true (by as_aux_lemma => kernel_rfl)) (by unfold Func.isWrapper; rw [if_neg (of_decide_eq_false (by as_aux_lemma => kernel_rfl))]; exact ⟨rfl, rfl⟩)
    (fun os started H enc _ => all_lifted os started H enc)

end Go.Proofs.YtchmhdmapknmfaaGreatDoor
