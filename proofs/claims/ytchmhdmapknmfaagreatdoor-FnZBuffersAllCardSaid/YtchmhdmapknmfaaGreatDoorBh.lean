/-
  A new encoder: zapcore.newJSONEncoder of a configuration.
-/
import Derived.Test.YtchmhdmapknmfaaGreatDoorBg
import Derived.Test.YtchmhdmapknmfaaGreatDoorBd
namespace Go.Proofs.YtchmhdmapknmfaaGreatDoor
open Go.RowKit

theorem heap3 (w : World) (o1 o2 o3 : Obj) : (((w.alloc o1).alloc o2).alloc o3).heap[w.heap.size]? = some o1 ∧ (((w.alloc o1).alloc o2).alloc o3).heap[w.heap.size + 1]? = some o2 ∧ (((w.alloc o1).alloc o2).alloc o3).heap[w.heap.size + 2]? = some o3 := by
  refine ⟨?_, ?_, ?_⟩
  · show (((w.heap.push o1).push o2).push o3)[w.heap.size]? = _
    rw [Array.getElem?_push, if_neg (by simp <;> omega), Array.getElem?_push, if_neg (by simp <;> omega), Array.getElem?_push, if_pos rfl]
  · show (((w.heap.push o1).push o2).push o3)[w.heap.size + 1]? = _
    rw [Array.getElem?_push, if_neg (by simp <;> omega), Array.getElem?_push, if_pos (by simp)]
  · show (((w.heap.push o1).push o2).push o3)[w.heap.size + 2]? = _
    rw [Array.getElem?_push, if_pos (by simp)]

theorem enc_new (w : World) (cs : Array Value) : Enc (w.heap.size + 3) w.heap.size (w.heap.size + 1) (w.heap.size + 2) [] (((w.alloc (.cells cs 79)).alloc (.cells #[.slice none 0 0] 181)).alloc (.cells #[.pointer (some ⟨w.heap.size, 0, none⟩), .pointer (some ⟨w.heap.size + 1, 0, none⟩), .bool false, .int .i64 0] 144)) := by
  obtain ⟨h1, h2, h3⟩ := heap3 w (.cells cs 79) (.cells #[.slice none 0 0] 181) (.cells #[.pointer (some ⟨w.heap.size, 0, none⟩), .pointer (some ⟨w.heap.size + 1, 0, none⟩), .bool false, .int .i64 0] 144)
  exact ⟨⟨by omega, by simp, _, h2, World.ownsRow_nil _ _ _ _⟩, by omega, by omega, h3⟩

theorem cell_new3 (w : World) (cs : Array Value) (t : TypeId) (o2 o3 : Obj) (k : Nat) : (((w.alloc (.cells cs t)).alloc o2).alloc o3).cell? ⟨w.heap.size, k, none⟩ = cs[k]? := by
  simp [World.cell?, (heap3 w (.cells cs t) o2 o3).1]

/-- What a new encoder leaves. -/
structure NewEnc (vt vd : Value) (w w' : World) : Prop where
  enc : Enc (w.heap.size + 3) w.heap.size (w.heap.size + 1) (w.heap.size + 2) [] w'
  c10 : w'.cell? ⟨w.heap.size, 10, none⟩ = some vt
  c11 : w'.cell? ⟨w.heap.size, 11, none⟩ = some vd
  below : Below w.heap.size w w'
  size : w'.heap.size = w.heap.size + 3

set_option maxRecDepth 100000 in
set_option maxHeartbeats 1000000 in
theorem newEncoder_any (vt vd : Value) (w : World) :
    Calls Tryz.prog 71 #[cfgV vt vd, .bool false] w fun r w' => r = .returned (.pointer (some ⟨w.heap.size + 2, 0, none⟩)) ∧ NewEnc vt vd w w' := by
  unfold cfgV
  go_enter Tryz.func71, Tryz.ntmps71
  go_wp2
  go_ret
  exact ⟨rfl, enc_new _ _, cell_new3 _ _ _ _ _ _, cell_new3 _ _ _ _ _ _, (((Below.refl _ _).alloc (Nat.le_refl _) _).alloc (by simp) _).alloc (by simp <;> omega) _, by simp⟩
end Go.Proofs.YtchmhdmapknmfaaGreatDoor
