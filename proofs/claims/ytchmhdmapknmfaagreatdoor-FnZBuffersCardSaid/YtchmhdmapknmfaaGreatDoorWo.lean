/-
  FnZBuffers: the row, out of its lift.
-/
import Derived.Test.YtchmhdmapknmfaaGreatDoorWn
import Derived.Test.YtchmhdmapknmfaaGreatDoorF11
namespace Go.Proofs.YtchmhdmapknmfaaGreatDoor
open Go.RowKit Go.ChangeShapes Go.WideShapes Go.ChangeAt

set_option maxRecDepth 100000 in
set_option maxHeartbeats 4000000 in
theorem buffers_row : Rows.FnZBuffersSaid :=
  OpenClaim.holds_of_wide 11 Tryz.f11 rfl rfl rfl rfl rfl rfl rfl ⟨rfl, rfl, rfl, rfl, rfl⟩ rfl rfl rfl rfl rfl (by as_aux_lemma => kernel_rfl) Tryz.func11 F11.facts
    (of_decide_eq_true (by as_aux_lemma => kernel_rfl)) (by unfold Func.isWrapper; rw [if_neg (of_decide_eq_false (by as_aux_lemma => kernel_rfl))]; exact ⟨rfl, rfl⟩)
    (fun os started H enc _ => buffers_lifted os started H enc)

end Go.Proofs.YtchmhdmapknmfaaGreatDoor
