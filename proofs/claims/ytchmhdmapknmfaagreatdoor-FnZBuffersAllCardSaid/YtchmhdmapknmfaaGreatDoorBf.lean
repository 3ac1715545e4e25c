/-
  Durations in nanoseconds: NanosDurationEncoder on the JSON encoder.
-/
import Derived.Test.YtchmhdmapknmfaaGreatDoorBe
namespace Go.Proofs.YtchmhdmapknmfaaGreatDoor
open Go.RowKit

theorem meth_AppendInt64 (a : Addr) (w : World) : (method 524 139 (.pointer (some a)) "AppendInt64").run Tryz.prog w = .ok (236, .pointer (some a)) w := by kernel_rfl

set_option maxRecDepth 100000 in
set_option maxHeartbeats 400000 in
theorem nanosEncoder_any {B c b e : Nat} (i : Int) (w : World) (h : Enc B c b e [] w) (hp : Pow w) (hb15 : 11 ≤ b) (h0 : -9223372036854775808 ≤ i) (h1 : i ≤ 9223372036854775807) :
    Calls Tryz.prog 119 #[.int .i64 i, .iface 139 (.pointer (some ⟨e, 0, none⟩))] w fun r w' => r = .returned (.tuple #[]) ∧ Buf B b (Lib.itoa i) w' ∧ Keeps B b w w' := by
  have Hi := Lib.hid (appendInt64_any i w h hp hb15 h0 h1)
  have H0 := Lib.hid h0
  have H1 := Lib.hid h1
  clear h hp h0 h1
  have hm := meth_AppendInt64 ⟨e, 0, none⟩ w
  go_enter Tryz.func119, Tryz.ntmps119
  go_wp2_with fail
  refine Hi.out.mono ?_
  rintro r w' ⟨rfl, hB, hK⟩
  have HB := Lib.hid hB
  have HK := Lib.hid hK
  clear hB hK
  go_wp2
  go_end0
  exact ⟨rfl, HB.out, HK.out⟩
end Go.Proofs.YtchmhdmapknmfaaGreatDoor
