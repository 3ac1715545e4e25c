/-
  ZDurationText by nanoseconds: the number's decimal numeral.
-/
import Derived.Test.YtchmhdmapknmfaaGreatDoorBi
import Derived.Test.YtchmhdmapknmfaaGreatDoorBd1
namespace Go.Proofs.YtchmhdmapknmfaaGreatDoor
open Go.RowKit

theorem enters38 (args : Array Value) (w : World) : (callFunc 38 args).run Tryz.prog w = .ok (.enter 38 args) w := by kernel_rfl
theorem enters119 (args : Array Value) (w : World) : (callFunc 119 args).run Tryz.prog w = .ok (.enter 119 args) w := by kernel_rfl

set_option maxRecDepth 100000 in
set_option maxHeartbeats 400000 in
theorem durationText_2 (d : Int) (w : World) (hp : Pow w) (hH : 11 ≤ w.heap.size) (h0 : -9223372036854775808 ≤ d) (h1 : d ≤ 9223372036854775807) (hT : ((0 : Int) == ((Lib.itoa d).length : Int)) = false) :
    Calls Tryz.prog 14 #[.int .i64 d, .int .i64 2] w fun r w' => r = .returned (.string ⟨(Lib.itoa d).toArray⟩) ∧ Below w.heap.size w w' := by
  have Hc := Lib.hid (config_nanos (w.alloc (.cells #[.int .i64 d] 2)))
  have H0 := Lib.hid h0
  have H1 := Lib.hid h1
  have HT := Lib.hid hT
  have HP := Lib.hid hp
  clear hp h0 h1 hT
  go_enter Tryz.func14, Tryz.ntmps14
  go_wp2_with fail
  refine Hc.out.mono ?_
  rintro r w1 ⟨rfl, hb⟩
  have hb0 : Below w.heap.size w w1 := ((Below.refl _ w).alloc (Nat.le_refl _) _).trans (hb.mono (by simp))
  have hq : w1.cell? ⟨w.heap.size, 0, none⟩ = some (.int .i64 d) := by
    rw [hb.cell (by simp)]; simp
  have hs1 : w.heap.size + 1 ≤ w1.heap.size := by have := hb.size; simpa using this
  have HB0 := Lib.hid hb0
  have HQ := Lib.hid hq
  have Hv := Lib.hid (value_any (vt := .nilFunc) (vd := .func (.func 119) #[] #[]) (T := Lib.itoa d) 38 w.heap.size w1 enters38 (by
    intro w' H hH' hbw hE _ h11
    refine durClosure (c := H) d w' hE ?_ h11 HT.out ?_ enters119
    · rw [hbw.cell (by show w.heap.size < _; omega)]; exact HQ.out
    · exact nanosEncoder_any d w' hE ((HP.out.belowB HB0.out hH).belowB hbw (by omega)) (by omega) H0.out H1.out))
  clear hb0 hq hb Hc
  go_wp2_with fail
  refine Hv.out.mono ?_
  rintro r w2 ⟨rfl, hb2⟩
  have Hb2 := Lib.hid (HB0.out.trans (hb2.mono (by omega)))
  clear hb2
  go_wp2
  go_ret
  exact ⟨rfl, Hb2.out⟩
end Go.Proofs.YtchmhdmapknmfaaGreatDoor
