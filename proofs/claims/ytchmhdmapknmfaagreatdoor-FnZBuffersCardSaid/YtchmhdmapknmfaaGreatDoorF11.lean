/-
  FnZBuffers: the closed facts of its row, one by one.
-/
import Derived.Test.YtchmhdmapknmfaaGreatDoorRows
import Derived.JoinedOf
namespace Go.Proofs.YtchmhdmapknmfaaGreatDoor.F11

theorem band {a b : Bool} (ha : a = true) (hb : b = true) : (a && b) = true := by rw [ha, hb]; rfl

set_option maxRecDepth 100000 in
set_option maxHeartbeats 4000000 in
theorem facts : joinedFacts Tryz.pinned.checked.prog 11 Tryz.f11 Rows.fnZBuffersSpec Rows.fnZBuffersRow = true := by
  unfold joinedFacts
  repeat' (with_reducible refine band ?_ ?_)
  all_goals as_aux_lemma => kernel_rfl
end Go.Proofs.YtchmhdmapknmfaaGreatDoor.F11
