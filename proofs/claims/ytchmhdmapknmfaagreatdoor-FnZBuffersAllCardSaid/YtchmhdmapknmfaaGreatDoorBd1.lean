/-
  What impl.configOf makes of one configuration.
-/
import Derived.Test.YtchmhdmapknmfaaGreatDoorBd
namespace Go.Proofs.YtchmhdmapknmfaaGreatDoor
open Go.RowKit
attribute [local go_sem ↓] Go.wp_at_zero Go.wp_at_succ

set_option maxRecDepth 100000 in
set_option maxHeartbeats 4000000 in
theorem config_nanos (w : World) :
    Calls Tryz.prog 37 #[.agg #[eS, eS, eS, eS, eS, eS, eS, .bool false, eS, zI, .int .i64 0, .int .i64 2, zI, zI, eS, eS]] w fun r w' => r = .returned (cfgV (.nilFunc) (.func (.func 119) #[] #[])) ∧ Below w.heap.size w w' := by
  go_enter Tryz.func37, Tryz.ntmps37
  go_wp2
  go_region_held3 (fun w' => w'.cell? ⟨w.heap.size, 0, none⟩ = some eS ∧ w'.cell? ⟨w.heap.size, 1, none⟩ = some eS ∧ w'.cell? ⟨w.heap.size, 2, none⟩ = some eS ∧ w'.cell? ⟨w.heap.size, 3, none⟩ = some eS ∧ w'.cell? ⟨w.heap.size, 4, none⟩ = some eS ∧ w'.cell? ⟨w.heap.size, 5, none⟩ = some eS ∧ w'.cell? ⟨w.heap.size, 6, none⟩ = some eS ∧ w'.cell? ⟨w.heap.size, 7, none⟩ = some (.bool false) ∧ w'.cell? ⟨w.heap.size, 8, none⟩ = some eS ∧ w'.cell? ⟨w.heap.size, 9, none⟩ = some zI ∧ w'.cell? ⟨w.heap.size, 10, none⟩ = some (.int .i64 0) ∧ w'.cell? ⟨w.heap.size, 11, none⟩ = some (.int .i64 2) ∧ w'.cell? ⟨w.heap.size, 12, none⟩ = some zI ∧ w'.cell? ⟨w.heap.size, 14, none⟩ = some eS ∧ w'.cell? ⟨w.heap.size, 15, none⟩ = some eS) (go_keep)
    (first
      | (go_at_call 73; refine (levelEncoder_0 _).mono ?_; rintro r w' ⟨rfl, rfl⟩)
      | (go_at_call 74; refine (timeEncoder_0 _).mono ?_; rintro r w' ⟨rfl, rfl⟩)
      | (go_at_call 75; refine (durationEncoder_2 _).mono ?_; rintro r w' ⟨rfl, rfl⟩)
      | (go_at_call 76; refine (callerEncoder_0 _).mono ?_; rintro r w' ⟨rfl, rfl⟩))
  all_goals go_wp2
  all_goals
    refine bodyPost_ret (v := cfgV _ _) (by simp [results, Tryz.results37, go_sem, cfgV]) rfl ⟨rfl, ?_⟩
    repeat (first | exact Below.refl _ _ | refine Below.drew ?_ | refine Below.alloc ?_ (by simp <;> omega) _ | refine Below.setCell ?_ (by simp <;> omega) _)
end Go.Proofs.YtchmhdmapknmfaaGreatDoor
