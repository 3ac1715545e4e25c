/-
  The text of the level 0 by its lowercase encoder, continued.
-/
import Derived.Test.YtchmhdmapknmfaaGreatDoorBk
import Derived.Deep.RegionHeld3
import Derived.Deep.DrawnRows
import Derived.Laws.EntriesVeiled
namespace Go.Proofs.YtchmhdmapknmfaaGreatDoor
open Go.RowKit
attribute [local go_sem ↓] Go.wp_at_zero Go.wp_at_succ

theorem meth_SliceAppendString (a : Addr) (w : World) : (method 524 150 (.pointer (some a)) "AppendString").run Tryz.prog w = .ok (314, .pointer (some a)) w := by kernel_rfl

theorem nil_SliceAppendString (a : Addr) (w : World) : (nilAhead 524 150 (.pointer (some a)) "AppendString").run Tryz.prog w = .ok (some false) w := by kernel_rfl

theorem SEnc.drew {B a n : Nat} {xs : List Value} {w : World} (h : SEnc B a n xs w) : SEnc B a n xs w.drew := h

theorem below_ofDrew {B : Nat} {w w' : World} (h : Below B w.drew w') : Below B w w' := ⟨h.os, h.tape, h.output, h.size, h.block⟩

set_option maxRecDepth 100000 in
set_option maxHeartbeats 400000 in
theorem lowercase_0 {B a n : Nat} {xs : List Value} (w : World) (h : SEnc B a n xs w) (hn : n + 1 ≤ 1000) :
    Calls Tryz.prog 78 #[.int .i8 0, .iface 150 (.pointer (some ⟨a, 0, none⟩))] w fun r w' => r = .returned (.tuple #[]) ∧ SEnc B a (n + 1) (xs ++ [.iface 9 (.string infoS)]) w' ∧ Below B w w' := by
  have H := Lib.hid h
  have Hn := Lib.hid hn
  have hm := fun w => meth_SliceAppendString ⟨a, 0, none⟩ w
  have hna := fun w => nil_SliceAppendString ⟨a, 0, none⟩ w
  clear h hn
  go_enter Tryz.func78, Tryz.ntmps78
  go_wp2_with fail
  go_region_held3 (fun _ => True) (go_keep) (first
      | (go_at_call 122; refine (levelString_0 _).mono ?_; rintro r w' ⟨rfl, rfl⟩)
      | (go_at_call 314; refine (sliceAppendString infoS _ H.out.drew Hn.out).mono ?_; rintro r w' ⟨rfl, hS, hK⟩))
  all_goals
    go_end0
    exact ⟨rfl, by assumption, below_ofDrew (by assumption)⟩

theorem enters78 (args : Array Value) (w : World) : (callFunc 78 args).run Tryz.prog w = .ok (.enter 78 args) w := by kernel_rfl

/-- The row that 'make([]interface{}, 0, 2)' lays. -/
theorem run_make2 (w : World) : (Instr.makeSlice 152 (.int .i64 0) (.int .i64 2)).run Tryz.prog w = .ok (.slice (some ⟨w.heap.size, 0, none⟩) 0 2) (w.alloc (.cells #[.nilIface, .nilIface] 20)) := by kernel_rfl

set_option maxRecDepth 100000 in
set_option maxHeartbeats 400000 in
theorem getSliceEncoder_any (w : World) : Calls Tryz.prog 86 #[] w fun r w' => r = .returned (.pointer (some ⟨w.heap.size + 1, 0, none⟩)) ∧ SEnc w.heap.size (w.heap.size + 1) 0 [] w' ∧ Below w.heap.size w w' := by
  have hm := run_make2
  go_enter Tryz.func86, Tryz.ntmps86
  go_wp2
  go_ret
  refine ⟨rfl, ⟨by omega, by simp, .slice (some ⟨w.heap.size, 0, none⟩) 0 2, ?_, ?_, ?_⟩, ((Below.refl _ _).alloc (Nat.le_refl _) _).alloc (by simp) _⟩
  · show ((w.heap.push _).push _)[w.heap.size + 1]? = _
    rw [Array.getElem?_push, if_pos (by simp)]
  · refine World.ownsRow.alloc ?_ _
    exact World.ownsRow_made w #[.nilIface, .nilIface] 2 (Nat.le_refl _) (by unfold maxLen; omega) rfl
  · simp [Value.ownBlock]

theorem assert_string (s : ByteArray) (w : World) : (Instr.typeAssert (.iface 9 (.string s)) 20 9 true).run Tryz.prog w = .ok (.tuple #[.string s, .bool true]) w := by kernel_rfl

set_option maxRecDepth 100000 in
set_option maxHeartbeats 400000 in
theorem levelText_0 (w : World) : Calls Tryz.prog 42 #[.int .i8 0, .func (.func 78) #[] #[]] w fun r w' => r = .returned (.string infoS) ∧ Below w.heap.size w w' := by
  have Hg := Lib.hid (getSliceEncoder_any w)
  have has := fun w => assert_string infoS w
  go_enter Tryz.func42, Tryz.ntmps42
  go_wp2_with fail
  refine Hg.out.mono ?_
  rintro r w1 ⟨rfl, hS, hb⟩
  have Hl := Lib.hid (lowercase_0 w1 hS (by omega))
  have Hb := Lib.hid hb
  clear hS hb Hg
  go_wp2_with fail
  refine Hl.out.mono ?_
  rintro r w2 ⟨rfl, hS, hb⟩
  have Hb2 := Lib.hid (Hb.out.trans hb)
  obtain ⟨-, -, sv, hblk, hown, -⟩ := hS
  have hc := cell_of_one hblk
  obtain ⟨p, k, hv⟩ := slice_of_own hown
  have hp : ∃ g, p = some ⟨g, 0, none⟩ ∧ w2.cell? ⟨g, 0, none⟩ = some (.iface 9 (.string infoS)) := by
    have h2 := hown
    obtain ⟨_, ⟨h1, h1'⟩ | ⟨g, cap, cur, hv', hg, hrow, hcap, hm, hsz, htake⟩⟩ := h2
    · omega
    · rw [hv] at hv'
      injection hv' with e1 e2 e3
      refine ⟨g, e1, ?_⟩
      rw [hv, e1] at hown
      rw [hown.cellAt 0 (by omega)]
      rfl
  obtain ⟨g, rfl, hg⟩ := hp
  rw [hv] at hc
  clear hv hown hblk hb Hl Hb
  go_wp2
  go_ret
  exact ⟨rfl, Hb2.out⟩

set_option maxRecDepth 100000 in
set_option maxHeartbeats 400000 in
theorem levelEncoder_1 (w : World) : Calls Tryz.prog 73 #[.int .i64 1] w fun r w' => r = .returned (.func (.func 78) #[] #[]) ∧ w = w' := by
  go_enter Tryz.func73, Tryz.ntmps73
  go_wp2
  go_ret
  exact ⟨rfl, rfl⟩

theorem eql_func69 (f : Nat) (w : World) : (binOp .eql 69 (.func (.func f) #[] #[]) .nilFunc).run Tryz.prog w = .ok (.bool false) w := by kernel_rfl

set_option maxRecDepth 100000 in
set_option maxHeartbeats 400000 in
theorem zLevelText_0 (w : World) : Calls Tryz.prog 47 #[.int .i64 0, .int .i64 1] w fun r w' => r = .returned (.string infoS) ∧ Below w.heap.size w w' := by
  have Hg := Lib.hid (levelEncoder_1 w)
  have Hl := Lib.hid (levelText_0 w)
  have he := fun w => eql_func69 78 w
  go_enter Tryz.func47, Tryz.ntmps47
  go_wp2_with fail
  refine Hg.out.mono ?_
  rintro r w1 ⟨rfl, rfl⟩
  go_wp2_with fail
  refine Hl.out.mono ?_
  rintro r w2 ⟨rfl, hb⟩
  have Hb := Lib.hid hb
  clear hb
  go_wp2
  go_ret
  exact ⟨rfl, Hb.out⟩

theorem itoa_1500 : Lib.itoa 1500 = [49, 53, 48, 48] := by decide +kernel

set_option maxRecDepth 100000 in
set_option maxHeartbeats 400000 in
/-- zAwake answers true. -/
theorem awake (w : World) (hp : Pow w) (hH : 11 ≤ w.heap.size) : Calls Tryz.prog 17 #[] w fun r w' => r = .returned (.bool true) ∧ Below w.heap.size w w' := by
  have Hl := Lib.hid (zLevelText_0 w)
  have Hd := Lib.hid (fun w1 (hb : Below w.heap.size w w1) => durationText_2 1500 w1 (hp.belowB hb hH) (by have := hb.size; omega) (by omega) (by omega) (by rw [itoa_1500]; rfl))
  rw [itoa_1500] at Hd
  clear hp
  go_enter Tryz.func17, Tryz.ntmps17
  go_wp2_with fail
  refine Hl.out.mono ?_
  rintro r w1 ⟨rfl, hb⟩
  have Hd1 := Lib.hid (Hd.out w1 hb)
  have Hb := Lib.hid hb
  clear hb Hd Hl
  unfold infoS
  go_wp2_with fail
  refine Hd1.out.mono ?_
  rintro r w2 ⟨rfl, hb⟩
  have Hb2 := Lib.hid (Hb.out.trans (hb.mono Hb.out.size))
  clear hb Hb Hd1
  go_wp2
  go_ret
  exact ⟨rfl, Hb2.out⟩
end Go.Proofs.YtchmhdmapknmfaaGreatDoor
