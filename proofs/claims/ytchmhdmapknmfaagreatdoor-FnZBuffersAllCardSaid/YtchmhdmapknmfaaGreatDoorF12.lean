/-
  FnZBuffersAll: the closed facts of its row, one by one.
-/
import Derived.Test.YtchmhdmapknmfaaGreatDoorRows
import Derived.JoinedOf
namespace Go.Proofs.YtchmhdmapknmfaaGreatDoor.F12

theorem band {a b : Bool} (ha : a = true) (hb : b = true) : (a && b) = true := by rw [ha, hb]; rfl

set_option maxRecDepth 100000 in
set_option maxHeartbeats 4000000 in
theorem facts : joinedFacts Tryz.pinned.checked.prog 12 Tryz.f12 Rows.fnZBuffersAllSpec Rows.fnZBuffersAllRow = true := by
  unfold joinedFacts
  repeat' (with_reducible refine band ?_ ?_)
  all_goals as_aux_lemma => kernel_rfl
end Go.Proofs.YtchmhdmapknmfaaGreatDoor.F12
