/-
  ZDurationText by the encoder of strings: a duration's text between quotation marks.
-/
import Derived.Test.YtchmhdmapknmfaaGreatDoorDh
import Derived.Test.YtchmhdmapknmfaaGreatDoorBj
import Derived.Test.YtchmhdmapknmfaaGreatDoorEb
namespace Go.Proofs.YtchmhdmapknmfaaGreatDoor
open Go.RowKit

theorem enters84 (args : Array Value) (w : World) : (callFunc 84 args).run Tryz.prog w = .ok (.enter 84 args) w := by kernel_rfl

theorem qt_some (T : List UInt8) : ((0 : Int) == ((qt T).length : Int)) = false := by
  rw [beq_eq_false_iff_ne]
  simp only [qt, List.length_cons]
  omega

set_option maxRecDepth 100000 in
set_option maxHeartbeats 400000 in
theorem durationText_4 (d : Int) (w : World) (hT : Lib.Utf8Tabs 1 2 w) (hH : 11 ≤ w.heap.size) (h0 : -9223372036854775808 ≤ d) (h1 : d ≤ 9223372036854775807) :
    Calls Tryz.prog 14 #[.int .i64 d, .int .i64 4] w fun r w' => r = .returned (.string ⟨(qt (dt d)).toArray⟩) ∧ Below w.heap.size w w' := by
  have Hc := Lib.hid (config_string (w.alloc (.cells #[.int .i64 d] 2)))
  have H0 := Lib.hid h0
  have H1 := Lib.hid h1
  have HT := Lib.hid hT
  have HQ4 := Lib.hid (qt_some (dt d))
  have HL := Lib.hid (dt_length d h0 h1)
  clear hT h0 h1
  go_enter Tryz.func14, Tryz.ntmps14
  go_wp2_with fail
  refine Hc.out.mono ?_
  rintro r w1 ⟨rfl, hb⟩
  have hb0 : Below w.heap.size w w1 := ((Below.refl _ w).alloc (Nat.le_refl _) _).trans (hb.mono (by simp))
  have hq : w1.cell? ⟨w.heap.size, 0, none⟩ = some (.int .i64 d) := by
    rw [hb.cell (by simp)]; simp
  have hs1 : w.heap.size + 1 ≤ w1.heap.size := by have := hb.size; simpa using this
  have HB0 := Lib.hid hb0
  have HQ := Lib.hid hq
  have Hv := Lib.hid (value_any (vt := .nilFunc) (vd := .func (.func 84) #[] #[]) (T := qt (dt d)) 38 w.heap.size w1 enters38 (by
    intro w' H hH' hbw hE _ h11
    refine durClosure (c := H) d w' hE ?_ h11 HQ4.out ?_ enters84
    · rw [hbw.cell (by show w.heap.size < _; omega)]; exact HQ.out
    · have := stringDurEncoder_any d w' hE (utf8Tabs_below (utf8Tabs_below HT.out HB0.out hH) hbw (by omega)) (by omega) H0.out H1.out (by have := HL.out; omega)
      rw [(dt_clean d).esc] at this
      exact Lib.hid this))
  clear hb0 hq hb Hc
  go_wp2_with fail
  refine Hv.out.mono ?_
  rintro r w2 ⟨rfl, hb2⟩
  have Hb2 := Lib.hid (HB0.out.trans (hb2.mono (by omega)))
  clear hb2
  go_wp2
  go_ret
  exact ⟨rfl, Hb2.out⟩
end Go.Proofs.YtchmhdmapknmfaaGreatDoor
