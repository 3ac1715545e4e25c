/-
  The JSON encoder at an empty buffer: the separator, and that what the buffer keeps leaves the encoder's own block as it was.
-/
import Derived.Test.YtchmhdmapknmfaaGreatDoorBb
namespace Go.Proofs.YtchmhdmapknmfaaGreatDoor
open Go.RowKit

/-- Block e is an encoder without spaces and namespaces over the buffer b and the configuration c. -/
structure Enc (B c b e : Nat) (xs : List UInt8) (w : World) : Prop where
  buf : Buf B b xs w
  lt : e < B
  ne : e ≠ b
  blk : w.heap[e]? = some (.cells #[.pointer (some ⟨c, 0, none⟩), .pointer (some ⟨b, 0, none⟩), .bool false, .int .i64 0] 144 (0, 0))

theorem Enc.next {B c b e : Nat} {xs ys : List UInt8} {w w' : World} (h : Enc B c b e xs w) (hb : Buf B b ys w') (hk : Keeps B b w w') : Enc B c b e ys w' :=
  ⟨hb, h.lt, h.ne, (hk.block e h.lt h.ne).trans h.blk⟩

theorem cells4 {w : World} {e : Nat} {v0 v1 v2 v3 : Value} {t : TypeId} (h : w.heap[e]? = some (.cells #[v0, v1, v2, v3] t (0, 0))) :
    w.cell? ⟨e, 0, none⟩ = some v0 ∧ w.cell? ⟨e, 1, none⟩ = some v1 ∧ w.cell? ⟨e, 2, none⟩ = some v2 ∧ w.cell? ⟨e, 3, none⟩ = some v3 := by
  simp [World.cell?, h]

theorem len_nil {B b : Nat} (w : World) (h : Buf B b [] w) : Calls Tryz.prog 250 #[.pointer (some ⟨b, 0, none⟩)] w fun e w' => e = .returned (.int .i64 0) ∧ w = w' := len_any w h

set_option maxRecDepth 100000 in
set_option maxHeartbeats 400000 in
theorem sep_empty {B c b e : Nat} (w : World) (h : Enc B c b e [] w) :
    Calls Tryz.prog 249 #[.pointer (some ⟨e, 0, none⟩)] w fun r w' => r = .returned (.tuple #[]) ∧ w = w' := by
  obtain ⟨-, h1, -, -⟩ := cells4 h.blk
  have H := Lib.hid h.buf
  clear h
  go_enter Tryz.func249, Tryz.ntmps249
  go_wp2_with (go_at_call 250; refine (len_nil _ H.out).mono ?_; rintro r w' ⟨rfl, rfl⟩)
  exact bodyPost_ret (results_none rfl _ _ _) rfl ⟨rfl, rfl⟩
end Go.Proofs.YtchmhdmapknmfaaGreatDoor
