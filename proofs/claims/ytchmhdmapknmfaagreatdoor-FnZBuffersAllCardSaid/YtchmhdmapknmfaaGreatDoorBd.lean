/-
  The configuration of an encoder: what impl.configOf makes of one that names at most an encoder of times and one of durations.
-/
import Derived.Test.YtchmhdmapknmfaaGreatDoorBc
import Derived.Deep.RegionHeld3
import Derived.Deep.DrawnRows
import Derived.Laws.EntriesVeiled
namespace Go.Proofs.YtchmhdmapknmfaaGreatDoor
open Go.RowKit
attribute [local go_sem ↓] Go.wp_at_zero Go.wp_at_succ

/-- The empty text. -/
abbrev eS : Value := .string ⟨#[]⟩
abbrev zI : Value := .int .i64 0

set_option maxRecDepth 100000 in
set_option maxHeartbeats 400000 in
theorem levelEncoder_0 (w : World) : Calls Tryz.prog 73 #[zI] w fun r w' => r = .returned .nilFunc ∧ w = w' := by
  go_enter Tryz.func73, Tryz.ntmps73
  go_wp2
  go_ret
  exact ⟨rfl, rfl⟩

set_option maxRecDepth 100000 in
set_option maxHeartbeats 400000 in
theorem callerEncoder_0 (w : World) : Calls Tryz.prog 76 #[zI] w fun r w' => r = .returned .nilFunc ∧ w = w' := by
  go_enter Tryz.func76, Tryz.ntmps76
  go_wp2
  go_ret
  exact ⟨rfl, rfl⟩

set_option maxRecDepth 100000 in
set_option maxHeartbeats 400000 in
theorem timeEncoder_0 (w : World) : Calls Tryz.prog 74 #[zI, eS] w fun r w' => r = .returned .nilFunc ∧ w = w' := by
  go_enter Tryz.func74, Tryz.ntmps74
  go_wp2
  go_ret
  exact ⟨rfl, rfl⟩

set_option maxRecDepth 100000 in
set_option maxHeartbeats 400000 in
theorem timeEncoder_4 (w : World) : Calls Tryz.prog 74 #[.int .i64 4, eS] w fun r w' => r = .returned (.func (.func 83) #[] #[]) ∧ w = w' := by
  go_enter Tryz.func74, Tryz.ntmps74
  go_wp2
  go_ret
  exact ⟨rfl, rfl⟩

set_option maxRecDepth 100000 in
set_option maxHeartbeats 400000 in
theorem durationEncoder_0 (w : World) : Calls Tryz.prog 75 #[zI] w fun r w' => r = .returned .nilFunc ∧ w = w' := by
  go_enter Tryz.func75, Tryz.ntmps75
  go_wp2
  go_ret
  exact ⟨rfl, rfl⟩

set_option maxRecDepth 100000 in
set_option maxHeartbeats 400000 in
theorem durationEncoder_2 (w : World) : Calls Tryz.prog 75 #[.int .i64 2] w fun r w' => r = .returned (.func (.func 119) #[] #[]) ∧ w = w' := by
  go_enter Tryz.func75, Tryz.ntmps75
  go_wp2
  go_ret
  exact ⟨rfl, rfl⟩

set_option maxRecDepth 100000 in
set_option maxHeartbeats 400000 in
theorem durationEncoder_4 (w : World) : Calls Tryz.prog 75 #[.int .i64 4] w fun r w' => r = .returned (.func (.func 84) #[] #[]) ∧ w = w' := by
  go_enter Tryz.func75, Tryz.ntmps75
  go_wp2
  go_ret
  exact ⟨rfl, rfl⟩

/-- The configuration as the package has it. -/
def cfgV (vt vd : Value) : Value := .agg #[eS, eS, eS, eS, eS, eS, eS, .bool false, eS, .nilFunc, vt, vd, .nilFunc, .nilFunc, eS]

end Go.Proofs.YtchmhdmapknmfaaGreatDoor
