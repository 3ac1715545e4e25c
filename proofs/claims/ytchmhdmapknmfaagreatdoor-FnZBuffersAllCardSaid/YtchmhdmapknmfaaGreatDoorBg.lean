/-
  jsonEncoder.AppendDuration and AppendTime at an empty buffer, by what the encoder of the configuration writes.
-/
import Derived.Test.YtchmhdmapknmfaaGreatDoorBf
namespace Go.Proofs.YtchmhdmapknmfaaGreatDoor
open Go.RowKit

theorem neq_func73 (f : Nat) (w : World) : (binOp .neq 73 (.func (.func f) #[] #[]) .nilFunc).run Tryz.prog w = .ok (.bool true) w := by kernel_rfl
theorem neq_func72 (f : Nat) (w : World) : (binOp .neq 72 (.func (.func f) #[] #[]) .nilFunc).run Tryz.prog w = .ok (.bool true) w := by kernel_rfl

set_option maxRecDepth 100000 in
set_option maxHeartbeats 400000 in
theorem appendDuration_any {B c b e f : Nat} {T : List UInt8} (d : Int) (w : World) (h : Enc B c b e [] w) (hc11 : w.cell? ⟨c, 11, none⟩ = some (.func (.func f) #[] #[]))
    (hT : ((0 : Int) == (T.length : Int)) = false)
    (Hf : Hid (Calls Tryz.prog f #[.int .i64 d, .iface 139 (.pointer (some ⟨e, 0, none⟩))] w fun r w' => r = .returned (.tuple #[]) ∧ Buf B b T w' ∧ Keeps B b w w'))
    (hf : ∀ args w, (callFunc f args).run Tryz.prog w = .ok (.enter f args) w) :
    Calls Tryz.prog 230 #[.pointer (some ⟨e, 0, none⟩), .int .i64 d] w fun r w' => r = .returned (.tuple #[]) ∧ Buf B b T w' ∧ Keeps B b w w' := by
  obtain ⟨hc0, hc1, -, -⟩ := cells4 h.blk
  have Hl := Lib.hid (len_nil w h.buf)
  have He := Lib.hid h
  clear h
  have hne := neq_func73 f w
  go_enter Tryz.func230, Tryz.ntmps230
  go_wp2_with fail
  refine Hl.out.mono ?_
  rintro r w' ⟨rfl, rfl⟩
  go_wp2_with fail
  refine Hf.out.mono ?_
  rintro r w1 ⟨rfl, hB, hK⟩
  have hc1' := (cells4 (He.out.next hB hK).blk).2.1
  have Hl1 := Lib.hid (len_any w1 hB)
  have HB := Lib.hid hB
  have HK := Lib.hid hK
  clear hB hK
  go_wp2_with fail
  refine Hl1.out.mono ?_
  rintro r w' ⟨rfl, rfl⟩
  go_wp2
  go_end0
  exact ⟨rfl, HB.out, HK.out⟩
end Go.Proofs.YtchmhdmapknmfaaGreatDoor
