/-
  Joined: Rh3 Rh4 Rh5. (Joined by merge.py out of several texts.)
-/
import Derived.Test.YtchmhdmapknmfaaGreatDoorYi

/-
  zWritten: what each part stands for (printed by gen_Rg.py).
-/
namespace Go.Proofs.YtchmhdmapknmfaaGreatDoor
open Go.RowKit Ly
attribute [local go_sem ↓] Go.wp_at_zero Go.wp_at_succ
set_option maxRecDepth 100000 in
set_option maxHeartbeats 4000000 in
theorem wt_1045_hi {x wk Z : ByteArray} {p3 p4 q7 : Nat} {yd hf off : Int} {m : Ly.Mo} {w0 W : World} {a : Act} (Q : Exit → Act → World → Prop) (C : WtCtx w0 p3 p4 q7 off Z yd hf wk m W) (ha : Wt x p3 p4 q7 yd hf wk a) (hx : bts x = [80, 77]) (h12 : 12 ≤ m.h) (hQ : WtEnd w0 (Ly.txt m 1045) Q) : Code.wp Tryz.prog wtTail Q a W := by
  obtain ⟨f, rfl⟩ := ha
  have e1 : x.toList = [80, 77] := by rw [← hx]; exact Lib.toList_data x
  have t0 : (x.toList == [74, 97, 110, 117, 97, 114, 121]) = false := by rw [e1]; decide
  have t1 : (x.toList == [74, 97, 110]) = false := by rw [e1]; decide
  have t2 : (x.toList == [49]) = false := by rw [e1]; decide
  have t3 : (x.toList == [48, 49]) = false := by rw [e1]; decide
  have t4 : (x.toList == [77, 111, 110, 100, 97, 121]) = false := by rw [e1]; decide
  have t5 : (x.toList == [77, 111, 110]) = false := by rw [e1]; decide
  have t6 : (x.toList == [50]) = false := by rw [e1]; decide
  have t7 : (x.toList == [95, 50]) = false := by rw [e1]; decide
  have t8 : (x.toList == [48, 50]) = false := by rw [e1]; decide
  have t9 : (x.toList == [48, 48, 50]) = false := by rw [e1]; decide
  have t10 : (x.toList == [95, 95, 50]) = false := by rw [e1]; decide
  have t11 : (x.toList == [50, 48, 48, 54]) = false := by rw [e1]; decide
  have t12 : (x.toList == [48, 54]) = false := by rw [e1]; decide
  have t13 : (x.toList == [49, 53]) = false := by rw [e1]; decide
  have t14 : (x.toList == [51]) = false := by rw [e1]; decide
  have t15 : (x.toList == [48, 51]) = false := by rw [e1]; decide
  have t16 : (x.toList == [52]) = false := by rw [e1]; decide
  have t17 : (x.toList == [48, 52]) = false := by rw [e1]; decide
  have t18 : (x.toList == [53]) = false := by rw [e1]; decide
  have t19 : (x.toList == [48, 53]) = false := by rw [e1]; decide
  have t20 : (x.toList == [80, 77]) = true := by rw [e1]; decide
  have HX := Lib.hid hx
  have H := Lib.hid C
  have z := C.c3
  have g : (12 : Int) ≤ (m.h : Int) := by omega
  have G := Lib.hid h12
  clear h12
  clear e1 hx C
  conv => arg 2; whnf
  go_wp2
  exact hQ _ _ ⟨#[80, 77]⟩ (by rfl) rfl (by show [80, 77] = (if 12 ≤ m.h then [80, 77] else [65, 77]); rw [if_pos (by have := G.out; omega)]) H.out.below

set_option maxRecDepth 100000 in
set_option maxHeartbeats 4000000 in
theorem wt_1045_lo {x wk Z : ByteArray} {p3 p4 q7 : Nat} {yd hf off : Int} {m : Ly.Mo} {w0 W : World} {a : Act} (Q : Exit → Act → World → Prop) (C : WtCtx w0 p3 p4 q7 off Z yd hf wk m W) (ha : Wt x p3 p4 q7 yd hf wk a) (hx : bts x = [80, 77]) (h12 : m.h < 12) (hQ : WtEnd w0 (Ly.txt m 1045) Q) : Code.wp Tryz.prog wtTail Q a W := by
  obtain ⟨f, rfl⟩ := ha
  have e1 : x.toList = [80, 77] := by rw [← hx]; exact Lib.toList_data x
  have t0 : (x.toList == [74, 97, 110, 117, 97, 114, 121]) = false := by rw [e1]; decide
  have t1 : (x.toList == [74, 97, 110]) = false := by rw [e1]; decide
  have t2 : (x.toList == [49]) = false := by rw [e1]; decide
  have t3 : (x.toList == [48, 49]) = false := by rw [e1]; decide
  have t4 : (x.toList == [77, 111, 110, 100, 97, 121]) = false := by rw [e1]; decide
  have t5 : (x.toList == [77, 111, 110]) = false := by rw [e1]; decide
  have t6 : (x.toList == [50]) = false := by rw [e1]; decide
  have t7 : (x.toList == [95, 50]) = false := by rw [e1]; decide
  have t8 : (x.toList == [48, 50]) = false := by rw [e1]; decide
  have t9 : (x.toList == [48, 48, 50]) = false := by rw [e1]; decide
  have t10 : (x.toList == [95, 95, 50]) = false := by rw [e1]; decide
  have t11 : (x.toList == [50, 48, 48, 54]) = false := by rw [e1]; decide
  have t12 : (x.toList == [48, 54]) = false := by rw [e1]; decide
  have t13 : (x.toList == [49, 53]) = false := by rw [e1]; decide
  have t14 : (x.toList == [51]) = false := by rw [e1]; decide
  have t15 : (x.toList == [48, 51]) = false := by rw [e1]; decide
  have t16 : (x.toList == [52]) = false := by rw [e1]; decide
  have t17 : (x.toList == [48, 52]) = false := by rw [e1]; decide
  have t18 : (x.toList == [53]) = false := by rw [e1]; decide
  have t19 : (x.toList == [48, 53]) = false := by rw [e1]; decide
  have t20 : (x.toList == [80, 77]) = true := by rw [e1]; decide
  have HX := Lib.hid hx
  have H := Lib.hid C
  have z := C.c3
  have g : (m.h : Int) < 12 := by omega
  have G := Lib.hid h12
  clear h12
  clear e1 hx C
  conv => arg 2; whnf
  go_wp2
  exact hQ _ _ ⟨#[65, 77]⟩ (by rfl) rfl (by show [65, 77] = (if 12 ≤ m.h then [80, 77] else [65, 77]); rw [if_neg (by have := G.out; omega)]) H.out.below

set_option maxRecDepth 100000 in
set_option maxHeartbeats 4000000 in
theorem wt_1046_hi {x wk Z : ByteArray} {p3 p4 q7 : Nat} {yd hf off : Int} {m : Ly.Mo} {w0 W : World} {a : Act} (Q : Exit → Act → World → Prop) (C : WtCtx w0 p3 p4 q7 off Z yd hf wk m W) (ha : Wt x p3 p4 q7 yd hf wk a) (hx : bts x = [112, 109]) (h12 : 12 ≤ m.h) (hQ : WtEnd w0 (Ly.txt m 1046) Q) : Code.wp Tryz.prog wtTail Q a W := by
  obtain ⟨f, rfl⟩ := ha
  have e1 : x.toList = [112, 109] := by rw [← hx]; exact Lib.toList_data x
  have t0 : (x.toList == [74, 97, 110, 117, 97, 114, 121]) = false := by rw [e1]; decide
  have t1 : (x.toList == [74, 97, 110]) = false := by rw [e1]; decide
  have t2 : (x.toList == [49]) = false := by rw [e1]; decide
  have t3 : (x.toList == [48, 49]) = false := by rw [e1]; decide
  have t4 : (x.toList == [77, 111, 110, 100, 97, 121]) = false := by rw [e1]; decide
  have t5 : (x.toList == [77, 111, 110]) = false := by rw [e1]; decide
  have t6 : (x.toList == [50]) = false := by rw [e1]; decide
  have t7 : (x.toList == [95, 50]) = false := by rw [e1]; decide
  have t8 : (x.toList == [48, 50]) = false := by rw [e1]; decide
  have t9 : (x.toList == [48, 48, 50]) = false := by rw [e1]; decide
  have t10 : (x.toList == [95, 95, 50]) = false := by rw [e1]; decide
  have t11 : (x.toList == [50, 48, 48, 54]) = false := by rw [e1]; decide
  have t12 : (x.toList == [48, 54]) = false := by rw [e1]; decide
  have t13 : (x.toList == [49, 53]) = false := by rw [e1]; decide
  have t14 : (x.toList == [51]) = false := by rw [e1]; decide
  have t15 : (x.toList == [48, 51]) = false := by rw [e1]; decide
  have t16 : (x.toList == [52]) = false := by rw [e1]; decide
  have t17 : (x.toList == [48, 52]) = false := by rw [e1]; decide
  have t18 : (x.toList == [53]) = false := by rw [e1]; decide
  have t19 : (x.toList == [48, 53]) = false := by rw [e1]; decide
  have t20 : (x.toList == [80, 77]) = false := by rw [e1]; decide
  have t21 : (x.toList == [112, 109]) = true := by rw [e1]; decide
  have HX := Lib.hid hx
  have H := Lib.hid C
  have z := C.c3
  have g : (12 : Int) ≤ (m.h : Int) := by omega
  have G := Lib.hid h12
  clear h12
  clear e1 hx C
  conv => arg 2; whnf
  go_wp2
  exact hQ _ _ ⟨#[112, 109]⟩ (by rfl) rfl (by show [112, 109] = (if 12 ≤ m.h then [112, 109] else [97, 109]); rw [if_pos (by have := G.out; omega)]) H.out.below

set_option maxRecDepth 100000 in
set_option maxHeartbeats 4000000 in
theorem wt_1046_lo {x wk Z : ByteArray} {p3 p4 q7 : Nat} {yd hf off : Int} {m : Ly.Mo} {w0 W : World} {a : Act} (Q : Exit → Act → World → Prop) (C : WtCtx w0 p3 p4 q7 off Z yd hf wk m W) (ha : Wt x p3 p4 q7 yd hf wk a) (hx : bts x = [112, 109]) (h12 : m.h < 12) (hQ : WtEnd w0 (Ly.txt m 1046) Q) : Code.wp Tryz.prog wtTail Q a W := by
  obtain ⟨f, rfl⟩ := ha
  have e1 : x.toList = [112, 109] := by rw [← hx]; exact Lib.toList_data x
  have t0 : (x.toList == [74, 97, 110, 117, 97, 114, 121]) = false := by rw [e1]; decide
  have t1 : (x.toList == [74, 97, 110]) = false := by rw [e1]; decide
  have t2 : (x.toList == [49]) = false := by rw [e1]; decide
  have t3 : (x.toList == [48, 49]) = false := by rw [e1]; decide
  have t4 : (x.toList == [77, 111, 110, 100, 97, 121]) = false := by rw [e1]; decide
  have t5 : (x.toList == [77, 111, 110]) = false := by rw [e1]; decide
  have t6 : (x.toList == [50]) = false := by rw [e1]; decide
  have t7 : (x.toList == [95, 50]) = false := by rw [e1]; decide
  have t8 : (x.toList == [48, 50]) = false := by rw [e1]; decide
  have t9 : (x.toList == [48, 48, 50]) = false := by rw [e1]; decide
  have t10 : (x.toList == [95, 95, 50]) = false := by rw [e1]; decide
  have t11 : (x.toList == [50, 48, 48, 54]) = false := by rw [e1]; decide
  have t12 : (x.toList == [48, 54]) = false := by rw [e1]; decide
  have t13 : (x.toList == [49, 53]) = false := by rw [e1]; decide
  have t14 : (x.toList == [51]) = false := by rw [e1]; decide
  have t15 : (x.toList == [48, 51]) = false := by rw [e1]; decide
  have t16 : (x.toList == [52]) = false := by rw [e1]; decide
  have t17 : (x.toList == [48, 52]) = false := by rw [e1]; decide
  have t18 : (x.toList == [53]) = false := by rw [e1]; decide
  have t19 : (x.toList == [48, 53]) = false := by rw [e1]; decide
  have t20 : (x.toList == [80, 77]) = false := by rw [e1]; decide
  have t21 : (x.toList == [112, 109]) = true := by rw [e1]; decide
  have HX := Lib.hid hx
  have H := Lib.hid C
  have z := C.c3
  have g : (m.h : Int) < 12 := by omega
  have G := Lib.hid h12
  clear h12
  clear e1 hx C
  conv => arg 2; whnf
  go_wp2
  exact hQ _ _ ⟨#[97, 109]⟩ (by rfl) rfl (by show [97, 109] = (if 12 ≤ m.h then [112, 109] else [97, 109]); rw [if_neg (by have := G.out; omega)]) H.out.below

set_option maxRecDepth 100000 in
set_option maxHeartbeats 4000000 in
theorem wt_23_name {x wk Z : ByteArray} {p3 p4 q7 : Nat} {yd hf off : Int} {m : Ly.Mo} {w0 W : World} {a : Act} (Q : Exit → Act → World → Prop) (C : WtCtx w0 p3 p4 q7 off Z yd hf wk m W) (ha : Wt x p3 p4 q7 yd hf wk a) (hx : bts x = [77, 83, 84]) (hz : 0 < Z.size) (hQ : WtEnd w0 (Ly.txt m 23) Q) : Code.wp Tryz.prog wtTail Q a W := by
  obtain ⟨f, rfl⟩ := ha
  have e1 : x.toList = [77, 83, 84] := by rw [← hx]; exact Lib.toList_data x
  have t0 : (x.toList == [74, 97, 110, 117, 97, 114, 121]) = false := by rw [e1]; decide
  have t1 : (x.toList == [74, 97, 110]) = false := by rw [e1]; decide
  have t2 : (x.toList == [49]) = false := by rw [e1]; decide
  have t3 : (x.toList == [48, 49]) = false := by rw [e1]; decide
  have t4 : (x.toList == [77, 111, 110, 100, 97, 121]) = false := by rw [e1]; decide
  have t5 : (x.toList == [77, 111, 110]) = false := by rw [e1]; decide
  have t6 : (x.toList == [50]) = false := by rw [e1]; decide
  have t7 : (x.toList == [95, 50]) = false := by rw [e1]; decide
  have t8 : (x.toList == [48, 50]) = false := by rw [e1]; decide
  have t9 : (x.toList == [48, 48, 50]) = false := by rw [e1]; decide
  have t10 : (x.toList == [95, 95, 50]) = false := by rw [e1]; decide
  have t11 : (x.toList == [50, 48, 48, 54]) = false := by rw [e1]; decide
  have t12 : (x.toList == [48, 54]) = false := by rw [e1]; decide
  have t13 : (x.toList == [49, 53]) = false := by rw [e1]; decide
  have t14 : (x.toList == [51]) = false := by rw [e1]; decide
  have t15 : (x.toList == [48, 51]) = false := by rw [e1]; decide
  have t16 : (x.toList == [52]) = false := by rw [e1]; decide
  have t17 : (x.toList == [48, 52]) = false := by rw [e1]; decide
  have t18 : (x.toList == [53]) = false := by rw [e1]; decide
  have t19 : (x.toList == [48, 53]) = false := by rw [e1]; decide
  have t20 : (x.toList == [80, 77]) = false := by rw [e1]; decide
  have t21 : (x.toList == [112, 109]) = false := by rw [e1]; decide
  have t22 : (x.toList == [77, 83, 84]) = true := by rw [e1]; decide
  have HX := Lib.hid hx
  have H := Lib.hid C
  have z := C.off3
  have z2 := C.zone3
  have g := isEmpty_no hz
  have GZ := Lib.hid (show ¬ m.zone = [] by rw [C.zone]; intro e; have e2 := congrArg List.length e; rw [bts_length, List.length_nil] at e2; omega)
  clear hz
  clear e1 hx C
  conv => arg 2; whnf
  go_wp2
  exact hQ _ _ Z (by rfl) rfl (by show bts Z = (if m.zone = [] then zn m.off false true false else m.zone); rw [if_neg GZ.out, H.out.zone]) H.out.below

set_option maxRecDepth 100000 in
set_option maxHeartbeats 4000000 in
theorem wt_23_neg {x wk Z : ByteArray} {p3 p4 q7 : Nat} {yd hf off : Int} {m : Ly.Mo} {w0 W : World} {a : Act} (Q : Exit → Act → World → Prop) (C : WtCtx w0 p3 p4 q7 off Z yd hf wk m W) (ha : Wt x p3 p4 q7 yd hf wk a) (hx : bts x = [77, 83, 84]) (h0 : m.off < 0) (hz : Z.size = 0) (hQ : WtEnd w0 (Ly.txt m 23) Q) : Code.wp Tryz.prog wtTail Q a W := by
  obtain ⟨f, rfl⟩ := ha
  have e1 : x.toList = [77, 83, 84] := by rw [← hx]; exact Lib.toList_data x
  have t0 : (x.toList == [74, 97, 110, 117, 97, 114, 121]) = false := by rw [e1]; decide
  have t1 : (x.toList == [74, 97, 110]) = false := by rw [e1]; decide
  have t2 : (x.toList == [49]) = false := by rw [e1]; decide
  have t3 : (x.toList == [48, 49]) = false := by rw [e1]; decide
  have t4 : (x.toList == [77, 111, 110, 100, 97, 121]) = false := by rw [e1]; decide
  have t5 : (x.toList == [77, 111, 110]) = false := by rw [e1]; decide
  have t6 : (x.toList == [50]) = false := by rw [e1]; decide
  have t7 : (x.toList == [95, 50]) = false := by rw [e1]; decide
  have t8 : (x.toList == [48, 50]) = false := by rw [e1]; decide
  have t9 : (x.toList == [48, 48, 50]) = false := by rw [e1]; decide
  have t10 : (x.toList == [95, 95, 50]) = false := by rw [e1]; decide
  have t11 : (x.toList == [50, 48, 48, 54]) = false := by rw [e1]; decide
  have t12 : (x.toList == [48, 54]) = false := by rw [e1]; decide
  have t13 : (x.toList == [49, 53]) = false := by rw [e1]; decide
  have t14 : (x.toList == [51]) = false := by rw [e1]; decide
  have t15 : (x.toList == [48, 51]) = false := by rw [e1]; decide
  have t16 : (x.toList == [52]) = false := by rw [e1]; decide
  have t17 : (x.toList == [48, 52]) = false := by rw [e1]; decide
  have t18 : (x.toList == [53]) = false := by rw [e1]; decide
  have t19 : (x.toList == [48, 53]) = false := by rw [e1]; decide
  have t20 : (x.toList == [80, 77]) = false := by rw [e1]; decide
  have t21 : (x.toList == [112, 109]) = false := by rw [e1]; decide
  have t22 : (x.toList == [77, 83, 84]) = true := by rw [e1]; decide
  have HX := Lib.hid hx
  have H := Lib.hid C
  have z := C.off3
  have z2 := C.zone3
  have g := isEmpty_yes hz
  have GZ := Lib.hid (show m.zone = [] by rw [C.zone]; exact List.eq_nil_of_length_eq_zero (by rw [bts_length]; exact hz))
  clear hz
  have G := Lib.hid h0
  clear h0
  clear e1 hx C
  conv => arg 2; whnf
  go_wp2_with fail
  go_at_call 97
  refine (offset_n100 off ⟨#[45, 48, 55, 48, 48]⟩ (by have := H.out.hoff; have := H.out.ok.off1; omega) (by have := H.out.hoff; have := H.out.ok.off; omega) (by have := H.out.hoff; have := G.out; omega) (by decide) (by decide) (by decide) _ H.out.hp H.out.hH).mono ?_
  rintro r w1 ⟨s, rfl, hs, -, hb⟩
  have HR := Lib.hid (And.intro hs hb)
  clear hs hb
  go_wp2
  obtain ⟨hs, hb⟩ := HR.out
  exact hQ _ _ s (by rfl) rfl (by show bts s = (if m.zone = [] then zn m.off false true false else m.zone); rw [if_pos GZ.out, hs, H.out.hoff]) (H.out.below.trans (hb.mono H.out.below.size))

set_option maxRecDepth 100000 in
set_option maxHeartbeats 4000000 in
theorem wt_23_pos {x wk Z : ByteArray} {p3 p4 q7 : Nat} {yd hf off : Int} {m : Ly.Mo} {w0 W : World} {a : Act} (Q : Exit → Act → World → Prop) (C : WtCtx w0 p3 p4 q7 off Z yd hf wk m W) (ha : Wt x p3 p4 q7 yd hf wk a) (hx : bts x = [77, 83, 84]) (h0 : 0 ≤ m.off) (hz : Z.size = 0) (hQ : WtEnd w0 (Ly.txt m 23) Q) : Code.wp Tryz.prog wtTail Q a W := by
  obtain ⟨f, rfl⟩ := ha
  have e1 : x.toList = [77, 83, 84] := by rw [← hx]; exact Lib.toList_data x
  have t0 : (x.toList == [74, 97, 110, 117, 97, 114, 121]) = false := by rw [e1]; decide
  have t1 : (x.toList == [74, 97, 110]) = false := by rw [e1]; decide
  have t2 : (x.toList == [49]) = false := by rw [e1]; decide
  have t3 : (x.toList == [48, 49]) = false := by rw [e1]; decide
  have t4 : (x.toList == [77, 111, 110, 100, 97, 121]) = false := by rw [e1]; decide
  have t5 : (x.toList == [77, 111, 110]) = false := by rw [e1]; decide
  have t6 : (x.toList == [50]) = false := by rw [e1]; decide
  have t7 : (x.toList == [95, 50]) = false := by rw [e1]; decide
  have t8 : (x.toList == [48, 50]) = false := by rw [e1]; decide
  have t9 : (x.toList == [48, 48, 50]) = false := by rw [e1]; decide
  have t10 : (x.toList == [95, 95, 50]) = false := by rw [e1]; decide
  have t11 : (x.toList == [50, 48, 48, 54]) = false := by rw [e1]; decide
  have t12 : (x.toList == [48, 54]) = false := by rw [e1]; decide
  have t13 : (x.toList == [49, 53]) = false := by rw [e1]; decide
  have t14 : (x.toList == [51]) = false := by rw [e1]; decide
  have t15 : (x.toList == [48, 51]) = false := by rw [e1]; decide
  have t16 : (x.toList == [52]) = false := by rw [e1]; decide
  have t17 : (x.toList == [48, 52]) = false := by rw [e1]; decide
  have t18 : (x.toList == [53]) = false := by rw [e1]; decide
  have t19 : (x.toList == [48, 53]) = false := by rw [e1]; decide
  have t20 : (x.toList == [80, 77]) = false := by rw [e1]; decide
  have t21 : (x.toList == [112, 109]) = false := by rw [e1]; decide
  have t22 : (x.toList == [77, 83, 84]) = true := by rw [e1]; decide
  have HX := Lib.hid hx
  have H := Lib.hid C
  have z := C.off3
  have z2 := C.zone3
  have g := isEmpty_yes hz
  have GZ := Lib.hid (show m.zone = [] by rw [C.zone]; exact List.eq_nil_of_length_eq_zero (by rw [bts_length]; exact hz))
  clear hz
  have G := Lib.hid h0
  clear h0
  clear e1 hx C
  conv => arg 2; whnf
  go_wp2_with fail
  go_at_call 97
  refine (offset_p100 off ⟨#[45, 48, 55, 48, 48]⟩ (by have := H.out.hoff; have := H.out.ok.off1; omega) (by have := H.out.hoff; have := H.out.ok.off; omega) (by have := H.out.hoff; have := G.out; omega) (by decide) (by decide) (by decide) _ H.out.hp H.out.hH).mono ?_
  rintro r w1 ⟨s, rfl, hs, -, hb⟩
  have HR := Lib.hid (And.intro hs hb)
  clear hs hb
  go_wp2
  obtain ⟨hs, hb⟩ := HR.out
  exact hQ _ _ s (by rfl) rfl (by show bts s = (if m.zone = [] then zn m.off false true false else m.zone); rw [if_pos GZ.out, hs, H.out.hoff]) (H.out.below.trans (hb.mono H.out.below.size))

set_option maxRecDepth 100000 in
set_option maxHeartbeats 4000000 in
theorem wt_29_neg {x wk Z : ByteArray} {p3 p4 q7 : Nat} {yd hf off : Int} {m : Ly.Mo} {w0 W : World} {a : Act} (Q : Exit → Act → World → Prop) (C : WtCtx w0 p3 p4 q7 off Z yd hf wk m W) (ha : Wt x p3 p4 q7 yd hf wk a) (hx : bts x = [45, 48, 55, 48, 48]) (h0 : m.off < 0) (hQ : WtEnd w0 (Ly.txt m 29) Q) : Code.wp Tryz.prog wtTail Q a W := by
  obtain ⟨f, rfl⟩ := ha
  have e1 : x.toList = [45, 48, 55, 48, 48] := by rw [← hx]; exact Lib.toList_data x
  obtain ⟨t0, t1, t2, t3, t4, t5, t6, t7, t8, t9, t10, t11, t12, t13, t14, t15, t16, t17, t18, t19, t20, t21, t22⟩ := sw_no e1 (by decide)
  have HX := Lib.hid hx
  have H := Lib.hid C
  have z := C.off3
  have hxs : x.size = 5 := by rw [← bts_length, hx]; rfl
  have hx0 : 0 < x.size := by omega
  have hx0' : (0 : Int) < (x.size : Int) := by omega
  have hb0 : x[0] = 45 := by have h := bts_drop x 0 hx0; rw [List.drop_zero, hx] at h; exact (List.cons.inj h).1.symm
  have g46 : ((x[0].toNat : Int) == 46) = false := by rw [hb0]; rfl
  have g44 : ((x[0].toNat : Int) == 44) = false := by rw [hb0]; rfl
  have g90 : ((x[0].toNat : Int) == 90) = false := by rw [hb0]; rfl
  have HX3 := Lib.hid (show ∃ h : 3 < x.size, ((x[3].toNat : Int) == 58) = false from ⟨by omega, by have h := bts_drop x 3 (by omega); rw [hx] at h; rw [(List.cons.inj h).1.symm]; rfl⟩)
  have HS := Lib.hid hxs
  clear hb0 hxs
  have G := Lib.hid h0
  clear h0
  clear e1 hx C
  conv => arg 2; whnf
  go_wp2_with fail
  go_at_call 97
  refine (offset_n100 off x (by have := H.out.hoff; have := H.out.ok.off1; omega) (by have := H.out.hoff; have := H.out.ok.off; omega) (by have := H.out.hoff; have := G.out; omega) HX3.out.1 HX3.out.2 (by have := HS.out; omega) _ H.out.hp H.out.hH).mono ?_
  rintro r w1 ⟨s, rfl, hs, -, hb⟩
  have HR := Lib.hid (And.intro hs hb)
  clear hs hb
  go_wp2
  obtain ⟨hs, hb⟩ := HR.out
  exact hQ _ _ s (by rfl) rfl (by show bts s = zn m.off false true false; rw [hs, H.out.hoff]) (H.out.below.trans (hb.mono H.out.below.size))

set_option maxRecDepth 100000 in
set_option maxHeartbeats 4000000 in
theorem wt_29_pos {x wk Z : ByteArray} {p3 p4 q7 : Nat} {yd hf off : Int} {m : Ly.Mo} {w0 W : World} {a : Act} (Q : Exit → Act → World → Prop) (C : WtCtx w0 p3 p4 q7 off Z yd hf wk m W) (ha : Wt x p3 p4 q7 yd hf wk a) (hx : bts x = [45, 48, 55, 48, 48]) (h0 : 0 ≤ m.off) (hQ : WtEnd w0 (Ly.txt m 29) Q) : Code.wp Tryz.prog wtTail Q a W := by
  obtain ⟨f, rfl⟩ := ha
  have e1 : x.toList = [45, 48, 55, 48, 48] := by rw [← hx]; exact Lib.toList_data x
  obtain ⟨t0, t1, t2, t3, t4, t5, t6, t7, t8, t9, t10, t11, t12, t13, t14, t15, t16, t17, t18, t19, t20, t21, t22⟩ := sw_no e1 (by decide)
  have HX := Lib.hid hx
  have H := Lib.hid C
  have z := C.off3
  have hxs : x.size = 5 := by rw [← bts_length, hx]; rfl
  have hx0 : 0 < x.size := by omega
  have hx0' : (0 : Int) < (x.size : Int) := by omega
  have hb0 : x[0] = 45 := by have h := bts_drop x 0 hx0; rw [List.drop_zero, hx] at h; exact (List.cons.inj h).1.symm
  have g46 : ((x[0].toNat : Int) == 46) = false := by rw [hb0]; rfl
  have g44 : ((x[0].toNat : Int) == 44) = false := by rw [hb0]; rfl
  have g90 : ((x[0].toNat : Int) == 90) = false := by rw [hb0]; rfl
  have HX3 := Lib.hid (show ∃ h : 3 < x.size, ((x[3].toNat : Int) == 58) = false from ⟨by omega, by have h := bts_drop x 3 (by omega); rw [hx] at h; rw [(List.cons.inj h).1.symm]; rfl⟩)
  have HS := Lib.hid hxs
  clear hb0 hxs
  have G := Lib.hid h0
  clear h0
  clear e1 hx C
  conv => arg 2; whnf
  go_wp2_with fail
  go_at_call 97
  refine (offset_p100 off x (by have := H.out.hoff; have := H.out.ok.off1; omega) (by have := H.out.hoff; have := H.out.ok.off; omega) (by have := H.out.hoff; have := G.out; omega) HX3.out.1 HX3.out.2 (by have := HS.out; omega) _ H.out.hp H.out.hH).mono ?_
  rintro r w1 ⟨s, rfl, hs, -, hb⟩
  have HR := Lib.hid (And.intro hs hb)
  clear hs hb
  go_wp2
  obtain ⟨hs, hb⟩ := HR.out
  exact hQ _ _ s (by rfl) rfl (by show bts s = zn m.off false true false; rw [hs, H.out.hoff]) (H.out.below.trans (hb.mono H.out.below.size))

set_option maxRecDepth 100000 in
set_option maxHeartbeats 4000000 in
theorem wt_31_neg {x wk Z : ByteArray} {p3 p4 q7 : Nat} {yd hf off : Int} {m : Ly.Mo} {w0 W : World} {a : Act} (Q : Exit → Act → World → Prop) (C : WtCtx w0 p3 p4 q7 off Z yd hf wk m W) (ha : Wt x p3 p4 q7 yd hf wk a) (hx : bts x = [45, 48, 55]) (h0 : m.off < 0) (hQ : WtEnd w0 (Ly.txt m 31) Q) : Code.wp Tryz.prog wtTail Q a W := by
  obtain ⟨f, rfl⟩ := ha
  have e1 : x.toList = [45, 48, 55] := by rw [← hx]; exact Lib.toList_data x
  obtain ⟨t0, t1, t2, t3, t4, t5, t6, t7, t8, t9, t10, t11, t12, t13, t14, t15, t16, t17, t18, t19, t20, t21, t22⟩ := sw_no e1 (by decide)
  have HX := Lib.hid hx
  have H := Lib.hid C
  have z := C.off3
  have hxs : x.size = 3 := by rw [← bts_length, hx]; rfl
  have hx0 : 0 < x.size := by omega
  have hx0' : (0 : Int) < (x.size : Int) := by omega
  have hb0 : x[0] = 45 := by have h := bts_drop x 0 hx0; rw [List.drop_zero, hx] at h; exact (List.cons.inj h).1.symm
  have g46 : ((x[0].toNat : Int) == 46) = false := by rw [hb0]; rfl
  have g44 : ((x[0].toNat : Int) == 44) = false := by rw [hb0]; rfl
  have g90 : ((x[0].toNat : Int) == 90) = false := by rw [hb0]; rfl
  have HS := Lib.hid hxs
  clear hb0 hxs
  have G := Lib.hid h0
  clear h0
  clear e1 hx C
  conv => arg 2; whnf
  go_wp2_with fail
  go_at_call 97
  refine (offset_n000 off x (by have := H.out.hoff; have := H.out.ok.off1; omega) (by have := H.out.hoff; have := H.out.ok.off; omega) (by have := H.out.hoff; have := G.out; omega) (by have := HS.out; omega) _ H.out.hp H.out.hH).mono ?_
  rintro r w1 ⟨s, rfl, hs, -, hb⟩
  have HR := Lib.hid (And.intro hs hb)
  clear hs hb
  go_wp2
  obtain ⟨hs, hb⟩ := HR.out
  exact hQ _ _ s (by rfl) rfl (by show bts s = zn m.off false false false; rw [hs, H.out.hoff]) (H.out.below.trans (hb.mono H.out.below.size))

set_option maxRecDepth 100000 in
set_option maxHeartbeats 4000000 in
theorem wt_31_pos {x wk Z : ByteArray} {p3 p4 q7 : Nat} {yd hf off : Int} {m : Ly.Mo} {w0 W : World} {a : Act} (Q : Exit → Act → World → Prop) (C : WtCtx w0 p3 p4 q7 off Z yd hf wk m W) (ha : Wt x p3 p4 q7 yd hf wk a) (hx : bts x = [45, 48, 55]) (h0 : 0 ≤ m.off) (hQ : WtEnd w0 (Ly.txt m 31) Q) : Code.wp Tryz.prog wtTail Q a W := by
  obtain ⟨f, rfl⟩ := ha
  have e1 : x.toList = [45, 48, 55] := by rw [← hx]; exact Lib.toList_data x
  obtain ⟨t0, t1, t2, t3, t4, t5, t6, t7, t8, t9, t10, t11, t12, t13, t14, t15, t16, t17, t18, t19, t20, t21, t22⟩ := sw_no e1 (by decide)
  have HX := Lib.hid hx
  have H := Lib.hid C
  have z := C.off3
  have hxs : x.size = 3 := by rw [← bts_length, hx]; rfl
  have hx0 : 0 < x.size := by omega
  have hx0' : (0 : Int) < (x.size : Int) := by omega
  have hb0 : x[0] = 45 := by have h := bts_drop x 0 hx0; rw [List.drop_zero, hx] at h; exact (List.cons.inj h).1.symm
  have g46 : ((x[0].toNat : Int) == 46) = false := by rw [hb0]; rfl
  have g44 : ((x[0].toNat : Int) == 44) = false := by rw [hb0]; rfl
  have g90 : ((x[0].toNat : Int) == 90) = false := by rw [hb0]; rfl
  have HS := Lib.hid hxs
  clear hb0 hxs
  have G := Lib.hid h0
  clear h0
  clear e1 hx C
  conv => arg 2; whnf
  go_wp2_with fail
  go_at_call 97
  refine (offset_p000 off x (by have := H.out.hoff; have := H.out.ok.off1; omega) (by have := H.out.hoff; have := H.out.ok.off; omega) (by have := H.out.hoff; have := G.out; omega) (by have := HS.out; omega) _ H.out.hp H.out.hH).mono ?_
  rintro r w1 ⟨s, rfl, hs, -, hb⟩
  have HR := Lib.hid (And.intro hs hb)
  clear hs hb
  go_wp2
  obtain ⟨hs, hb⟩ := HR.out
  exact hQ _ _ s (by rfl) rfl (by show bts s = zn m.off false false false; rw [hs, H.out.hoff]) (H.out.below.trans (hb.mono H.out.below.size))

set_option maxRecDepth 100000 in
set_option maxHeartbeats 4000000 in
theorem wt_24_neg {x wk Z : ByteArray} {p3 p4 q7 : Nat} {yd hf off : Int} {m : Ly.Mo} {w0 W : World} {a : Act} (Q : Exit → Act → World → Prop) (C : WtCtx w0 p3 p4 q7 off Z yd hf wk m W) (ha : Wt x p3 p4 q7 yd hf wk a) (hx : bts x = [90, 48, 55, 48, 48]) (h0 : m.off < 0) (hQ : WtEnd w0 (Ly.txt m 24) Q) : Code.wp Tryz.prog wtTail Q a W := by
  obtain ⟨f, rfl⟩ := ha
  have e1 : x.toList = [90, 48, 55, 48, 48] := by rw [← hx]; exact Lib.toList_data x
  obtain ⟨t0, t1, t2, t3, t4, t5, t6, t7, t8, t9, t10, t11, t12, t13, t14, t15, t16, t17, t18, t19, t20, t21, t22⟩ := sw_no e1 (by decide)
  have HX := Lib.hid hx
  have H := Lib.hid C
  have z := C.off3
  have hxs : x.size = 5 := by rw [← bts_length, hx]; rfl
  have hx0 : 0 < x.size := by omega
  have hx0' : (0 : Int) < (x.size : Int) := by omega
  have hb0 : x[0] = 90 := by have h := bts_drop x 0 hx0; rw [List.drop_zero, hx] at h; exact (List.cons.inj h).1.symm
  have g46 : ((x[0].toNat : Int) == 46) = false := by rw [hb0]; rfl
  have g44 : ((x[0].toNat : Int) == 44) = false := by rw [hb0]; rfl
  have g90 : ((x[0].toNat : Int) == 90) = true := by rw [hb0]; rfl
  have gz : (off == 0) = false := by rw [beq_eq_false_iff_ne, C.hoff]; omega
  have HX3 := Lib.hid (show ∃ h : 3 < x.size, ((x[3].toNat : Int) == 58) = false from ⟨by omega, by have h := bts_drop x 3 (by omega); rw [hx] at h; rw [(List.cons.inj h).1.symm]; rfl⟩)
  have HS := Lib.hid hxs
  clear hb0 hxs
  have G := Lib.hid h0
  clear h0
  clear e1 hx C
  conv => arg 2; whnf
  go_wp2_with fail
  go_at_call 97
  refine (offset_n100 off x (by have := H.out.hoff; have := H.out.ok.off1; omega) (by have := H.out.hoff; have := H.out.ok.off; omega) (by have := H.out.hoff; have := G.out; omega) HX3.out.1 HX3.out.2 (by have := HS.out; omega) _ H.out.hp H.out.hH).mono ?_
  rintro r w1 ⟨s, rfl, hs, -, hb⟩
  have HR := Lib.hid (And.intro hs hb)
  clear hs hb
  go_wp2
  obtain ⟨hs, hb⟩ := HR.out
  exact hQ _ _ s (by rfl) rfl (by show bts s = (if m.off = 0 then [90] else zn m.off false true false); rw [if_neg (by have := G.out; omega), hs, H.out.hoff]) (H.out.below.trans (hb.mono H.out.below.size))

set_option maxRecDepth 100000 in
set_option maxHeartbeats 4000000 in
theorem wt_24_pos {x wk Z : ByteArray} {p3 p4 q7 : Nat} {yd hf off : Int} {m : Ly.Mo} {w0 W : World} {a : Act} (Q : Exit → Act → World → Prop) (C : WtCtx w0 p3 p4 q7 off Z yd hf wk m W) (ha : Wt x p3 p4 q7 yd hf wk a) (hx : bts x = [90, 48, 55, 48, 48]) (h0 : 0 < m.off) (hQ : WtEnd w0 (Ly.txt m 24) Q) : Code.wp Tryz.prog wtTail Q a W := by
  obtain ⟨f, rfl⟩ := ha
  have e1 : x.toList = [90, 48, 55, 48, 48] := by rw [← hx]; exact Lib.toList_data x
  obtain ⟨t0, t1, t2, t3, t4, t5, t6, t7, t8, t9, t10, t11, t12, t13, t14, t15, t16, t17, t18, t19, t20, t21, t22⟩ := sw_no e1 (by decide)
  have HX := Lib.hid hx
  have H := Lib.hid C
  have z := C.off3
  have hxs : x.size = 5 := by rw [← bts_length, hx]; rfl
  have hx0 : 0 < x.size := by omega
  have hx0' : (0 : Int) < (x.size : Int) := by omega
  have hb0 : x[0] = 90 := by have h := bts_drop x 0 hx0; rw [List.drop_zero, hx] at h; exact (List.cons.inj h).1.symm
  have g46 : ((x[0].toNat : Int) == 46) = false := by rw [hb0]; rfl
  have g44 : ((x[0].toNat : Int) == 44) = false := by rw [hb0]; rfl
  have g90 : ((x[0].toNat : Int) == 90) = true := by rw [hb0]; rfl
  have gz : (off == 0) = false := by rw [beq_eq_false_iff_ne, C.hoff]; omega
  have HX3 := Lib.hid (show ∃ h : 3 < x.size, ((x[3].toNat : Int) == 58) = false from ⟨by omega, by have h := bts_drop x 3 (by omega); rw [hx] at h; rw [(List.cons.inj h).1.symm]; rfl⟩)
  have HS := Lib.hid hxs
  clear hb0 hxs
  have G := Lib.hid h0
  clear h0
  clear e1 hx C
  conv => arg 2; whnf
  go_wp2_with fail
  go_at_call 97
  refine (offset_p100 off x (by have := H.out.hoff; have := H.out.ok.off1; omega) (by have := H.out.hoff; have := H.out.ok.off; omega) (by have := H.out.hoff; have := G.out; omega) HX3.out.1 HX3.out.2 (by have := HS.out; omega) _ H.out.hp H.out.hH).mono ?_
  rintro r w1 ⟨s, rfl, hs, -, hb⟩
  have HR := Lib.hid (And.intro hs hb)
  clear hs hb
  go_wp2
  obtain ⟨hs, hb⟩ := HR.out
  exact hQ _ _ s (by rfl) rfl (by show bts s = (if m.off = 0 then [90] else zn m.off false true false); rw [if_neg (by have := G.out; omega), hs, H.out.hoff]) (H.out.below.trans (hb.mono H.out.below.size))

set_option maxRecDepth 100000 in
set_option maxHeartbeats 4000000 in
theorem wt_24_zero {x wk Z : ByteArray} {p3 p4 q7 : Nat} {yd hf off : Int} {m : Ly.Mo} {w0 W : World} {a : Act} (Q : Exit → Act → World → Prop) (C : WtCtx w0 p3 p4 q7 off Z yd hf wk m W) (ha : Wt x p3 p4 q7 yd hf wk a) (hx : bts x = [90, 48, 55, 48, 48]) (h0 : m.off = 0) (hQ : WtEnd w0 (Ly.txt m 24) Q) : Code.wp Tryz.prog wtTail Q a W := by
  obtain ⟨f, rfl⟩ := ha
  have e1 : x.toList = [90, 48, 55, 48, 48] := by rw [← hx]; exact Lib.toList_data x
  obtain ⟨t0, t1, t2, t3, t4, t5, t6, t7, t8, t9, t10, t11, t12, t13, t14, t15, t16, t17, t18, t19, t20, t21, t22⟩ := sw_no e1 (by decide)
  have HX := Lib.hid hx
  have H := Lib.hid C
  have z := C.off3
  have hxs : x.size = 5 := by rw [← bts_length, hx]; rfl
  have hx0 : 0 < x.size := by omega
  have hx0' : (0 : Int) < (x.size : Int) := by omega
  have hb0 : x[0] = 90 := by have h := bts_drop x 0 hx0; rw [List.drop_zero, hx] at h; exact (List.cons.inj h).1.symm
  have g46 : ((x[0].toNat : Int) == 46) = false := by rw [hb0]; rfl
  have g44 : ((x[0].toNat : Int) == 44) = false := by rw [hb0]; rfl
  have g90 : ((x[0].toNat : Int) == 90) = true := by rw [hb0]; rfl
  have gz : (off == 0) = true := by rw [beq_iff_eq, C.hoff]; exact h0
  have G := Lib.hid h0
  clear hb0 hxs h0
  clear e1 hx C
  conv => arg 2; whnf
  go_wp2
  exact hQ _ _ ⟨#[90]⟩ (by rfl) rfl (by show [90] = (if m.off = 0 then [90] else _); rw [if_pos G.out]) H.out.below
end Go.Proofs.YtchmhdmapknmfaaGreatDoor

/-
  zWritten: what each part stands for (printed by gen_Rg.py).
-/
namespace Go.Proofs.YtchmhdmapknmfaaGreatDoor
open Go.RowKit Ly
attribute [local go_sem ↓] Go.wp_at_zero Go.wp_at_succ
set_option maxRecDepth 100000 in
set_option maxHeartbeats 4000000 in
theorem wt_30_neg {x wk Z : ByteArray} {p3 p4 q7 : Nat} {yd hf off : Int} {m : Ly.Mo} {w0 W : World} {a : Act} (Q : Exit → Act → World → Prop) (C : WtCtx w0 p3 p4 q7 off Z yd hf wk m W) (ha : Wt x p3 p4 q7 yd hf wk a) (hx : bts x = [45, 48, 55, 48, 48, 48, 48]) (h0 : m.off < 0) (hQ : WtEnd w0 (Ly.txt m 30) Q) : Code.wp Tryz.prog wtTail Q a W := by
  obtain ⟨f, rfl⟩ := ha
  have e1 : x.toList = [45, 48, 55, 48, 48, 48, 48] := by rw [← hx]; exact Lib.toList_data x
  obtain ⟨t0, t1, t2, t3, t4, t5, t6, t7, t8, t9, t10, t11, t12, t13, t14, t15, t16, t17, t18, t19, t20, t21, t22⟩ := sw_no e1 (by decide)
  have HX := Lib.hid hx
  have H := Lib.hid C
  have z := C.off3
  have hxs : x.size = 7 := by rw [← bts_length, hx]; rfl
  have hx0 : 0 < x.size := by omega
  have hx0' : (0 : Int) < (x.size : Int) := by omega
  have hb0 : x[0] = 45 := by have h := bts_drop x 0 hx0; rw [List.drop_zero, hx] at h; exact (List.cons.inj h).1.symm
  have g46 : ((x[0].toNat : Int) == 46) = false := by rw [hb0]; rfl
  have g44 : ((x[0].toNat : Int) == 44) = false := by rw [hb0]; rfl
  have g90 : ((x[0].toNat : Int) == 90) = false := by rw [hb0]; rfl
  have HX3 := Lib.hid (show ∃ h : 3 < x.size, ((x[3].toNat : Int) == 58) = false from ⟨by omega, by have h := bts_drop x 3 (by omega); rw [hx] at h; rw [(List.cons.inj h).1.symm]; rfl⟩)
  have HS := Lib.hid hxs
  clear hb0 hxs
  have G := Lib.hid h0
  clear h0
  clear e1 hx C
  conv => arg 2; whnf
  go_wp2_with fail
  go_at_call 97
  refine (offset_n101 off x (by have := H.out.hoff; have := H.out.ok.off1; omega) (by have := H.out.hoff; have := H.out.ok.off; omega) (by have := H.out.hoff; have := G.out; omega) HX3.out.1 HX3.out.2 (by have := HS.out; omega) _ H.out.hp H.out.hH).mono ?_
  rintro r w1 ⟨s, rfl, hs, -, hb⟩
  have HR := Lib.hid (And.intro hs hb)
  clear hs hb
  go_wp2
  obtain ⟨hs, hb⟩ := HR.out
  exact hQ _ _ s (by rfl) rfl (by show bts s = zn m.off false true true; rw [hs, H.out.hoff]) (H.out.below.trans (hb.mono H.out.below.size))

set_option maxRecDepth 100000 in
set_option maxHeartbeats 4000000 in
theorem wt_30_pos {x wk Z : ByteArray} {p3 p4 q7 : Nat} {yd hf off : Int} {m : Ly.Mo} {w0 W : World} {a : Act} (Q : Exit → Act → World → Prop) (C : WtCtx w0 p3 p4 q7 off Z yd hf wk m W) (ha : Wt x p3 p4 q7 yd hf wk a) (hx : bts x = [45, 48, 55, 48, 48, 48, 48]) (h0 : 0 ≤ m.off) (hQ : WtEnd w0 (Ly.txt m 30) Q) : Code.wp Tryz.prog wtTail Q a W := by
  obtain ⟨f, rfl⟩ := ha
  have e1 : x.toList = [45, 48, 55, 48, 48, 48, 48] := by rw [← hx]; exact Lib.toList_data x
  obtain ⟨t0, t1, t2, t3, t4, t5, t6, t7, t8, t9, t10, t11, t12, t13, t14, t15, t16, t17, t18, t19, t20, t21, t22⟩ := sw_no e1 (by decide)
  have HX := Lib.hid hx
  have H := Lib.hid C
  have z := C.off3
  have hxs : x.size = 7 := by rw [← bts_length, hx]; rfl
  have hx0 : 0 < x.size := by omega
  have hx0' : (0 : Int) < (x.size : Int) := by omega
  have hb0 : x[0] = 45 := by have h := bts_drop x 0 hx0; rw [List.drop_zero, hx] at h; exact (List.cons.inj h).1.symm
  have g46 : ((x[0].toNat : Int) == 46) = false := by rw [hb0]; rfl
  have g44 : ((x[0].toNat : Int) == 44) = false := by rw [hb0]; rfl
  have g90 : ((x[0].toNat : Int) == 90) = false := by rw [hb0]; rfl
  have HX3 := Lib.hid (show ∃ h : 3 < x.size, ((x[3].toNat : Int) == 58) = false from ⟨by omega, by have h := bts_drop x 3 (by omega); rw [hx] at h; rw [(List.cons.inj h).1.symm]; rfl⟩)
  have HS := Lib.hid hxs
  clear hb0 hxs
  have G := Lib.hid h0
  clear h0
  clear e1 hx C
  conv => arg 2; whnf
  go_wp2_with fail
  go_at_call 97
  refine (offset_p101 off x (by have := H.out.hoff; have := H.out.ok.off1; omega) (by have := H.out.hoff; have := H.out.ok.off; omega) (by have := H.out.hoff; have := G.out; omega) HX3.out.1 HX3.out.2 (by have := HS.out; omega) _ H.out.hp H.out.hH).mono ?_
  rintro r w1 ⟨s, rfl, hs, -, hb⟩
  have HR := Lib.hid (And.intro hs hb)
  clear hs hb
  go_wp2
  obtain ⟨hs, hb⟩ := HR.out
  exact hQ _ _ s (by rfl) rfl (by show bts s = zn m.off false true true; rw [hs, H.out.hoff]) (H.out.below.trans (hb.mono H.out.below.size))

set_option maxRecDepth 100000 in
set_option maxHeartbeats 4000000 in
theorem wt_32_neg {x wk Z : ByteArray} {p3 p4 q7 : Nat} {yd hf off : Int} {m : Ly.Mo} {w0 W : World} {a : Act} (Q : Exit → Act → World → Prop) (C : WtCtx w0 p3 p4 q7 off Z yd hf wk m W) (ha : Wt x p3 p4 q7 yd hf wk a) (hx : bts x = [45, 48, 55, 58, 48, 48]) (h0 : m.off < 0) (hQ : WtEnd w0 (Ly.txt m 32) Q) : Code.wp Tryz.prog wtTail Q a W := by
  obtain ⟨f, rfl⟩ := ha
  have e1 : x.toList = [45, 48, 55, 58, 48, 48] := by rw [← hx]; exact Lib.toList_data x
  obtain ⟨t0, t1, t2, t3, t4, t5, t6, t7, t8, t9, t10, t11, t12, t13, t14, t15, t16, t17, t18, t19, t20, t21, t22⟩ := sw_no e1 (by decide)
  have HX := Lib.hid hx
  have H := Lib.hid C
  have z := C.off3
  have hxs : x.size = 6 := by rw [← bts_length, hx]; rfl
  have hx0 : 0 < x.size := by omega
  have hx0' : (0 : Int) < (x.size : Int) := by omega
  have hb0 : x[0] = 45 := by have h := bts_drop x 0 hx0; rw [List.drop_zero, hx] at h; exact (List.cons.inj h).1.symm
  have g46 : ((x[0].toNat : Int) == 46) = false := by rw [hb0]; rfl
  have g44 : ((x[0].toNat : Int) == 44) = false := by rw [hb0]; rfl
  have g90 : ((x[0].toNat : Int) == 90) = false := by rw [hb0]; rfl
  have HX3 := Lib.hid (show ∃ h : 3 < x.size, ((x[3].toNat : Int) == 58) = true from ⟨by omega, by have h := bts_drop x 3 (by omega); rw [hx] at h; rw [(List.cons.inj h).1.symm]; rfl⟩)
  have HS := Lib.hid hxs
  clear hb0 hxs
  have G := Lib.hid h0
  clear h0
  clear e1 hx C
  conv => arg 2; whnf
  go_wp2_with fail
  go_at_call 97
  refine (offset_n110 off x (by have := H.out.hoff; have := H.out.ok.off1; omega) (by have := H.out.hoff; have := H.out.ok.off; omega) (by have := H.out.hoff; have := G.out; omega) HX3.out.1 HX3.out.2 (by have := HS.out; omega) _ H.out.hp H.out.hH).mono ?_
  rintro r w1 ⟨s, rfl, hs, -, hb⟩
  have HR := Lib.hid (And.intro hs hb)
  clear hs hb
  go_wp2
  obtain ⟨hs, hb⟩ := HR.out
  exact hQ _ _ s (by rfl) rfl (by show bts s = zn m.off true true false; rw [hs, H.out.hoff]) (H.out.below.trans (hb.mono H.out.below.size))

set_option maxRecDepth 100000 in
set_option maxHeartbeats 4000000 in
theorem wt_32_pos {x wk Z : ByteArray} {p3 p4 q7 : Nat} {yd hf off : Int} {m : Ly.Mo} {w0 W : World} {a : Act} (Q : Exit → Act → World → Prop) (C : WtCtx w0 p3 p4 q7 off Z yd hf wk m W) (ha : Wt x p3 p4 q7 yd hf wk a) (hx : bts x = [45, 48, 55, 58, 48, 48]) (h0 : 0 ≤ m.off) (hQ : WtEnd w0 (Ly.txt m 32) Q) : Code.wp Tryz.prog wtTail Q a W := by
  obtain ⟨f, rfl⟩ := ha
  have e1 : x.toList = [45, 48, 55, 58, 48, 48] := by rw [← hx]; exact Lib.toList_data x
  obtain ⟨t0, t1, t2, t3, t4, t5, t6, t7, t8, t9, t10, t11, t12, t13, t14, t15, t16, t17, t18, t19, t20, t21, t22⟩ := sw_no e1 (by decide)
  have HX := Lib.hid hx
  have H := Lib.hid C
  have z := C.off3
  have hxs : x.size = 6 := by rw [← bts_length, hx]; rfl
  have hx0 : 0 < x.size := by omega
  have hx0' : (0 : Int) < (x.size : Int) := by omega
  have hb0 : x[0] = 45 := by have h := bts_drop x 0 hx0; rw [List.drop_zero, hx] at h; exact (List.cons.inj h).1.symm
  have g46 : ((x[0].toNat : Int) == 46) = false := by rw [hb0]; rfl
  have g44 : ((x[0].toNat : Int) == 44) = false := by rw [hb0]; rfl
  have g90 : ((x[0].toNat : Int) == 90) = false := by rw [hb0]; rfl
  have HX3 := Lib.hid (show ∃ h : 3 < x.size, ((x[3].toNat : Int) == 58) = true from ⟨by omega, by have h := bts_drop x 3 (by omega); rw [hx] at h; rw [(List.cons.inj h).1.symm]; rfl⟩)
  have HS := Lib.hid hxs
  clear hb0 hxs
  have G := Lib.hid h0
  clear h0
  clear e1 hx C
  conv => arg 2; whnf
  go_wp2_with fail
  go_at_call 97
  refine (offset_p110 off x (by have := H.out.hoff; have := H.out.ok.off1; omega) (by have := H.out.hoff; have := H.out.ok.off; omega) (by have := H.out.hoff; have := G.out; omega) HX3.out.1 HX3.out.2 (by have := HS.out; omega) _ H.out.hp H.out.hH).mono ?_
  rintro r w1 ⟨s, rfl, hs, -, hb⟩
  have HR := Lib.hid (And.intro hs hb)
  clear hs hb
  go_wp2
  obtain ⟨hs, hb⟩ := HR.out
  exact hQ _ _ s (by rfl) rfl (by show bts s = zn m.off true true false; rw [hs, H.out.hoff]) (H.out.below.trans (hb.mono H.out.below.size))

set_option maxRecDepth 100000 in
set_option maxHeartbeats 4000000 in
theorem wt_33_neg {x wk Z : ByteArray} {p3 p4 q7 : Nat} {yd hf off : Int} {m : Ly.Mo} {w0 W : World} {a : Act} (Q : Exit → Act → World → Prop) (C : WtCtx w0 p3 p4 q7 off Z yd hf wk m W) (ha : Wt x p3 p4 q7 yd hf wk a) (hx : bts x = [45, 48, 55, 58, 48, 48, 58, 48, 48]) (h0 : m.off < 0) (hQ : WtEnd w0 (Ly.txt m 33) Q) : Code.wp Tryz.prog wtTail Q a W := by
  obtain ⟨f, rfl⟩ := ha
  have e1 : x.toList = [45, 48, 55, 58, 48, 48, 58, 48, 48] := by rw [← hx]; exact Lib.toList_data x
  obtain ⟨t0, t1, t2, t3, t4, t5, t6, t7, t8, t9, t10, t11, t12, t13, t14, t15, t16, t17, t18, t19, t20, t21, t22⟩ := sw_no e1 (by decide)
  have HX := Lib.hid hx
  have H := Lib.hid C
  have z := C.off3
  have hxs : x.size = 9 := by rw [← bts_length, hx]; rfl
  have hx0 : 0 < x.size := by omega
  have hx0' : (0 : Int) < (x.size : Int) := by omega
  have hb0 : x[0] = 45 := by have h := bts_drop x 0 hx0; rw [List.drop_zero, hx] at h; exact (List.cons.inj h).1.symm
  have g46 : ((x[0].toNat : Int) == 46) = false := by rw [hb0]; rfl
  have g44 : ((x[0].toNat : Int) == 44) = false := by rw [hb0]; rfl
  have g90 : ((x[0].toNat : Int) == 90) = false := by rw [hb0]; rfl
  have HX3 := Lib.hid (show ∃ h : 3 < x.size, ((x[3].toNat : Int) == 58) = true from ⟨by omega, by have h := bts_drop x 3 (by omega); rw [hx] at h; rw [(List.cons.inj h).1.symm]; rfl⟩)
  have HS := Lib.hid hxs
  clear hb0 hxs
  have G := Lib.hid h0
  clear h0
  clear e1 hx C
  conv => arg 2; whnf
  go_wp2_with fail
  go_at_call 97
  refine (offset_n111 off x (by have := H.out.hoff; have := H.out.ok.off1; omega) (by have := H.out.hoff; have := H.out.ok.off; omega) (by have := H.out.hoff; have := G.out; omega) HX3.out.1 HX3.out.2 (by have := HS.out; omega) _ H.out.hp H.out.hH).mono ?_
  rintro r w1 ⟨s, rfl, hs, -, hb⟩
  have HR := Lib.hid (And.intro hs hb)
  clear hs hb
  go_wp2
  obtain ⟨hs, hb⟩ := HR.out
  exact hQ _ _ s (by rfl) rfl (by show bts s = zn m.off true true true; rw [hs, H.out.hoff]) (H.out.below.trans (hb.mono H.out.below.size))

set_option maxRecDepth 100000 in
set_option maxHeartbeats 4000000 in
theorem wt_33_pos {x wk Z : ByteArray} {p3 p4 q7 : Nat} {yd hf off : Int} {m : Ly.Mo} {w0 W : World} {a : Act} (Q : Exit → Act → World → Prop) (C : WtCtx w0 p3 p4 q7 off Z yd hf wk m W) (ha : Wt x p3 p4 q7 yd hf wk a) (hx : bts x = [45, 48, 55, 58, 48, 48, 58, 48, 48]) (h0 : 0 ≤ m.off) (hQ : WtEnd w0 (Ly.txt m 33) Q) : Code.wp Tryz.prog wtTail Q a W := by
  obtain ⟨f, rfl⟩ := ha
  have e1 : x.toList = [45, 48, 55, 58, 48, 48, 58, 48, 48] := by rw [← hx]; exact Lib.toList_data x
  obtain ⟨t0, t1, t2, t3, t4, t5, t6, t7, t8, t9, t10, t11, t12, t13, t14, t15, t16, t17, t18, t19, t20, t21, t22⟩ := sw_no e1 (by decide)
  have HX := Lib.hid hx
  have H := Lib.hid C
  have z := C.off3
  have hxs : x.size = 9 := by rw [← bts_length, hx]; rfl
  have hx0 : 0 < x.size := by omega
  have hx0' : (0 : Int) < (x.size : Int) := by omega
  have hb0 : x[0] = 45 := by have h := bts_drop x 0 hx0; rw [List.drop_zero, hx] at h; exact (List.cons.inj h).1.symm
  have g46 : ((x[0].toNat : Int) == 46) = false := by rw [hb0]; rfl
  have g44 : ((x[0].toNat : Int) == 44) = false := by rw [hb0]; rfl
  have g90 : ((x[0].toNat : Int) == 90) = false := by rw [hb0]; rfl
  have HX3 := Lib.hid (show ∃ h : 3 < x.size, ((x[3].toNat : Int) == 58) = true from ⟨by omega, by have h := bts_drop x 3 (by omega); rw [hx] at h; rw [(List.cons.inj h).1.symm]; rfl⟩)
  have HS := Lib.hid hxs
  clear hb0 hxs
  have G := Lib.hid h0
  clear h0
  clear e1 hx C
  conv => arg 2; whnf
  go_wp2_with fail
  go_at_call 97
  refine (offset_p111 off x (by have := H.out.hoff; have := H.out.ok.off1; omega) (by have := H.out.hoff; have := H.out.ok.off; omega) (by have := H.out.hoff; have := G.out; omega) HX3.out.1 HX3.out.2 (by have := HS.out; omega) _ H.out.hp H.out.hH).mono ?_
  rintro r w1 ⟨s, rfl, hs, -, hb⟩
  have HR := Lib.hid (And.intro hs hb)
  clear hs hb
  go_wp2
  obtain ⟨hs, hb⟩ := HR.out
  exact hQ _ _ s (by rfl) rfl (by show bts s = zn m.off true true true; rw [hs, H.out.hoff]) (H.out.below.trans (hb.mono H.out.below.size))

set_option maxRecDepth 100000 in
set_option maxHeartbeats 4000000 in
theorem wt_26_neg {x wk Z : ByteArray} {p3 p4 q7 : Nat} {yd hf off : Int} {m : Ly.Mo} {w0 W : World} {a : Act} (Q : Exit → Act → World → Prop) (C : WtCtx w0 p3 p4 q7 off Z yd hf wk m W) (ha : Wt x p3 p4 q7 yd hf wk a) (hx : bts x = [90, 48, 55]) (h0 : m.off < 0) (hQ : WtEnd w0 (Ly.txt m 26) Q) : Code.wp Tryz.prog wtTail Q a W := by
  obtain ⟨f, rfl⟩ := ha
  have e1 : x.toList = [90, 48, 55] := by rw [← hx]; exact Lib.toList_data x
  obtain ⟨t0, t1, t2, t3, t4, t5, t6, t7, t8, t9, t10, t11, t12, t13, t14, t15, t16, t17, t18, t19, t20, t21, t22⟩ := sw_no e1 (by decide)
  have HX := Lib.hid hx
  have H := Lib.hid C
  have z := C.off3
  have hxs : x.size = 3 := by rw [← bts_length, hx]; rfl
  have hx0 : 0 < x.size := by omega
  have hx0' : (0 : Int) < (x.size : Int) := by omega
  have hb0 : x[0] = 90 := by have h := bts_drop x 0 hx0; rw [List.drop_zero, hx] at h; exact (List.cons.inj h).1.symm
  have g46 : ((x[0].toNat : Int) == 46) = false := by rw [hb0]; rfl
  have g44 : ((x[0].toNat : Int) == 44) = false := by rw [hb0]; rfl
  have g90 : ((x[0].toNat : Int) == 90) = true := by rw [hb0]; rfl
  have gz : (off == 0) = false := by rw [beq_eq_false_iff_ne, C.hoff]; omega
  have HS := Lib.hid hxs
  clear hb0 hxs
  have G := Lib.hid h0
  clear h0
  clear e1 hx C
  conv => arg 2; whnf
  go_wp2_with fail
  go_at_call 97
  refine (offset_n000 off x (by have := H.out.hoff; have := H.out.ok.off1; omega) (by have := H.out.hoff; have := H.out.ok.off; omega) (by have := H.out.hoff; have := G.out; omega) (by have := HS.out; omega) _ H.out.hp H.out.hH).mono ?_
  rintro r w1 ⟨s, rfl, hs, -, hb⟩
  have HR := Lib.hid (And.intro hs hb)
  clear hs hb
  go_wp2
  obtain ⟨hs, hb⟩ := HR.out
  exact hQ _ _ s (by rfl) rfl (by show bts s = (if m.off = 0 then [90] else zn m.off false false false); rw [if_neg (by have := G.out; omega), hs, H.out.hoff]) (H.out.below.trans (hb.mono H.out.below.size))

set_option maxRecDepth 100000 in
set_option maxHeartbeats 4000000 in
theorem wt_26_pos {x wk Z : ByteArray} {p3 p4 q7 : Nat} {yd hf off : Int} {m : Ly.Mo} {w0 W : World} {a : Act} (Q : Exit → Act → World → Prop) (C : WtCtx w0 p3 p4 q7 off Z yd hf wk m W) (ha : Wt x p3 p4 q7 yd hf wk a) (hx : bts x = [90, 48, 55]) (h0 : 0 < m.off) (hQ : WtEnd w0 (Ly.txt m 26) Q) : Code.wp Tryz.prog wtTail Q a W := by
  obtain ⟨f, rfl⟩ := ha
  have e1 : x.toList = [90, 48, 55] := by rw [← hx]; exact Lib.toList_data x
  obtain ⟨t0, t1, t2, t3, t4, t5, t6, t7, t8, t9, t10, t11, t12, t13, t14, t15, t16, t17, t18, t19, t20, t21, t22⟩ := sw_no e1 (by decide)
  have HX := Lib.hid hx
  have H := Lib.hid C
  have z := C.off3
  have hxs : x.size = 3 := by rw [← bts_length, hx]; rfl
  have hx0 : 0 < x.size := by omega
  have hx0' : (0 : Int) < (x.size : Int) := by omega
  have hb0 : x[0] = 90 := by have h := bts_drop x 0 hx0; rw [List.drop_zero, hx] at h; exact (List.cons.inj h).1.symm
  have g46 : ((x[0].toNat : Int) == 46) = false := by rw [hb0]; rfl
  have g44 : ((x[0].toNat : Int) == 44) = false := by rw [hb0]; rfl
  have g90 : ((x[0].toNat : Int) == 90) = true := by rw [hb0]; rfl
  have gz : (off == 0) = false := by rw [beq_eq_false_iff_ne, C.hoff]; omega
  have HS := Lib.hid hxs
  clear hb0 hxs
  have G := Lib.hid h0
  clear h0
  clear e1 hx C
  conv => arg 2; whnf
  go_wp2_with fail
  go_at_call 97
  refine (offset_p000 off x (by have := H.out.hoff; have := H.out.ok.off1; omega) (by have := H.out.hoff; have := H.out.ok.off; omega) (by have := H.out.hoff; have := G.out; omega) (by have := HS.out; omega) _ H.out.hp H.out.hH).mono ?_
  rintro r w1 ⟨s, rfl, hs, -, hb⟩
  have HR := Lib.hid (And.intro hs hb)
  clear hs hb
  go_wp2
  obtain ⟨hs, hb⟩ := HR.out
  exact hQ _ _ s (by rfl) rfl (by show bts s = (if m.off = 0 then [90] else zn m.off false false false); rw [if_neg (by have := G.out; omega), hs, H.out.hoff]) (H.out.below.trans (hb.mono H.out.below.size))

set_option maxRecDepth 100000 in
set_option maxHeartbeats 4000000 in
theorem wt_26_zero {x wk Z : ByteArray} {p3 p4 q7 : Nat} {yd hf off : Int} {m : Ly.Mo} {w0 W : World} {a : Act} (Q : Exit → Act → World → Prop) (C : WtCtx w0 p3 p4 q7 off Z yd hf wk m W) (ha : Wt x p3 p4 q7 yd hf wk a) (hx : bts x = [90, 48, 55]) (h0 : m.off = 0) (hQ : WtEnd w0 (Ly.txt m 26) Q) : Code.wp Tryz.prog wtTail Q a W := by
  obtain ⟨f, rfl⟩ := ha
  have e1 : x.toList = [90, 48, 55] := by rw [← hx]; exact Lib.toList_data x
  obtain ⟨t0, t1, t2, t3, t4, t5, t6, t7, t8, t9, t10, t11, t12, t13, t14, t15, t16, t17, t18, t19, t20, t21, t22⟩ := sw_no e1 (by decide)
  have HX := Lib.hid hx
  have H := Lib.hid C
  have z := C.off3
  have hxs : x.size = 3 := by rw [← bts_length, hx]; rfl
  have hx0 : 0 < x.size := by omega
  have hx0' : (0 : Int) < (x.size : Int) := by omega
  have hb0 : x[0] = 90 := by have h := bts_drop x 0 hx0; rw [List.drop_zero, hx] at h; exact (List.cons.inj h).1.symm
  have g46 : ((x[0].toNat : Int) == 46) = false := by rw [hb0]; rfl
  have g44 : ((x[0].toNat : Int) == 44) = false := by rw [hb0]; rfl
  have g90 : ((x[0].toNat : Int) == 90) = true := by rw [hb0]; rfl
  have gz : (off == 0) = true := by rw [beq_iff_eq, C.hoff]; exact h0
  have G := Lib.hid h0
  clear hb0 hxs h0
  clear e1 hx C
  conv => arg 2; whnf
  go_wp2
  exact hQ _ _ ⟨#[90]⟩ (by rfl) rfl (by show [90] = (if m.off = 0 then [90] else _); rw [if_pos G.out]) H.out.below
end Go.Proofs.YtchmhdmapknmfaaGreatDoor

/-
  zWritten: what each part stands for (printed by gen_Rg.py).
-/
namespace Go.Proofs.YtchmhdmapknmfaaGreatDoor
open Go.RowKit Ly
attribute [local go_sem ↓] Go.wp_at_zero Go.wp_at_succ
set_option maxRecDepth 100000 in
set_option maxHeartbeats 4000000 in
theorem wt_25_neg {x wk Z : ByteArray} {p3 p4 q7 : Nat} {yd hf off : Int} {m : Ly.Mo} {w0 W : World} {a : Act} (Q : Exit → Act → World → Prop) (C : WtCtx w0 p3 p4 q7 off Z yd hf wk m W) (ha : Wt x p3 p4 q7 yd hf wk a) (hx : bts x = [90, 48, 55, 48, 48, 48, 48]) (h0 : m.off < 0) (hQ : WtEnd w0 (Ly.txt m 25) Q) : Code.wp Tryz.prog wtTail Q a W := by
  obtain ⟨f, rfl⟩ := ha
  have e1 : x.toList = [90, 48, 55, 48, 48, 48, 48] := by rw [← hx]; exact Lib.toList_data x
  obtain ⟨t0, t1, t2, t3, t4, t5, t6, t7, t8, t9, t10, t11, t12, t13, t14, t15, t16, t17, t18, t19, t20, t21, t22⟩ := sw_no e1 (by decide)
  have HX := Lib.hid hx
  have H := Lib.hid C
  have z := C.off3
  have hxs : x.size = 7 := by rw [← bts_length, hx]; rfl
  have hx0 : 0 < x.size := by omega
  have hx0' : (0 : Int) < (x.size : Int) := by omega
  have hb0 : x[0] = 90 := by have h := bts_drop x 0 hx0; rw [List.drop_zero, hx] at h; exact (List.cons.inj h).1.symm
  have g46 : ((x[0].toNat : Int) == 46) = false := by rw [hb0]; rfl
  have g44 : ((x[0].toNat : Int) == 44) = false := by rw [hb0]; rfl
  have g90 : ((x[0].toNat : Int) == 90) = true := by rw [hb0]; rfl
  have gz : (off == 0) = false := by rw [beq_eq_false_iff_ne, C.hoff]; omega
  have HX3 := Lib.hid (show ∃ h : 3 < x.size, ((x[3].toNat : Int) == 58) = false from ⟨by omega, by have h := bts_drop x 3 (by omega); rw [hx] at h; rw [(List.cons.inj h).1.symm]; rfl⟩)
  have HS := Lib.hid hxs
  clear hb0 hxs
  have G := Lib.hid h0
  clear h0
  clear e1 hx C
  conv => arg 2; whnf
  go_wp2_with fail
  go_at_call 97
  refine (offset_n101 off x (by have := H.out.hoff; have := H.out.ok.off1; omega) (by have := H.out.hoff; have := H.out.ok.off; omega) (by have := H.out.hoff; have := G.out; omega) HX3.out.1 HX3.out.2 (by have := HS.out; omega) _ H.out.hp H.out.hH).mono ?_
  rintro r w1 ⟨s, rfl, hs, -, hb⟩
  have HR := Lib.hid (And.intro hs hb)
  clear hs hb
  go_wp2
  obtain ⟨hs, hb⟩ := HR.out
  exact hQ _ _ s (by rfl) rfl (by show bts s = (if m.off = 0 then [90] else zn m.off false true true); rw [if_neg (by have := G.out; omega), hs, H.out.hoff]) (H.out.below.trans (hb.mono H.out.below.size))

set_option maxRecDepth 100000 in
set_option maxHeartbeats 4000000 in
theorem wt_25_pos {x wk Z : ByteArray} {p3 p4 q7 : Nat} {yd hf off : Int} {m : Ly.Mo} {w0 W : World} {a : Act} (Q : Exit → Act → World → Prop) (C : WtCtx w0 p3 p4 q7 off Z yd hf wk m W) (ha : Wt x p3 p4 q7 yd hf wk a) (hx : bts x = [90, 48, 55, 48, 48, 48, 48]) (h0 : 0 < m.off) (hQ : WtEnd w0 (Ly.txt m 25) Q) : Code.wp Tryz.prog wtTail Q a W := by
  obtain ⟨f, rfl⟩ := ha
  have e1 : x.toList = [90, 48, 55, 48, 48, 48, 48] := by rw [← hx]; exact Lib.toList_data x
  obtain ⟨t0, t1, t2, t3, t4, t5, t6, t7, t8, t9, t10, t11, t12, t13, t14, t15, t16, t17, t18, t19, t20, t21, t22⟩ := sw_no e1 (by decide)
  have HX := Lib.hid hx
  have H := Lib.hid C
  have z := C.off3
  have hxs : x.size = 7 := by rw [← bts_length, hx]; rfl
  have hx0 : 0 < x.size := by omega
  have hx0' : (0 : Int) < (x.size : Int) := by omega
  have hb0 : x[0] = 90 := by have h := bts_drop x 0 hx0; rw [List.drop_zero, hx] at h; exact (List.cons.inj h).1.symm
  have g46 : ((x[0].toNat : Int) == 46) = false := by rw [hb0]; rfl
  have g44 : ((x[0].toNat : Int) == 44) = false := by rw [hb0]; rfl
  have g90 : ((x[0].toNat : Int) == 90) = true := by rw [hb0]; rfl
  have gz : (off == 0) = false := by rw [beq_eq_false_iff_ne, C.hoff]; omega
  have HX3 := Lib.hid (show ∃ h : 3 < x.size, ((x[3].toNat : Int) == 58) = false from ⟨by omega, by have h := bts_drop x 3 (by omega); rw [hx] at h; rw [(List.cons.inj h).1.symm]; rfl⟩)
  have HS := Lib.hid hxs
  clear hb0 hxs
  have G := Lib.hid h0
  clear h0
  clear e1 hx C
  conv => arg 2; whnf
  go_wp2_with fail
  go_at_call 97
  refine (offset_p101 off x (by have := H.out.hoff; have := H.out.ok.off1; omega) (by have := H.out.hoff; have := H.out.ok.off; omega) (by have := H.out.hoff; have := G.out; omega) HX3.out.1 HX3.out.2 (by have := HS.out; omega) _ H.out.hp H.out.hH).mono ?_
  rintro r w1 ⟨s, rfl, hs, -, hb⟩
  have HR := Lib.hid (And.intro hs hb)
  clear hs hb
  go_wp2
  obtain ⟨hs, hb⟩ := HR.out
  exact hQ _ _ s (by rfl) rfl (by show bts s = (if m.off = 0 then [90] else zn m.off false true true); rw [if_neg (by have := G.out; omega), hs, H.out.hoff]) (H.out.below.trans (hb.mono H.out.below.size))

set_option maxRecDepth 100000 in
set_option maxHeartbeats 4000000 in
theorem wt_25_zero {x wk Z : ByteArray} {p3 p4 q7 : Nat} {yd hf off : Int} {m : Ly.Mo} {w0 W : World} {a : Act} (Q : Exit → Act → World → Prop) (C : WtCtx w0 p3 p4 q7 off Z yd hf wk m W) (ha : Wt x p3 p4 q7 yd hf wk a) (hx : bts x = [90, 48, 55, 48, 48, 48, 48]) (h0 : m.off = 0) (hQ : WtEnd w0 (Ly.txt m 25) Q) : Code.wp Tryz.prog wtTail Q a W := by
  obtain ⟨f, rfl⟩ := ha
  have e1 : x.toList = [90, 48, 55, 48, 48, 48, 48] := by rw [← hx]; exact Lib.toList_data x
  obtain ⟨t0, t1, t2, t3, t4, t5, t6, t7, t8, t9, t10, t11, t12, t13, t14, t15, t16, t17, t18, t19, t20, t21, t22⟩ := sw_no e1 (by decide)
  have HX := Lib.hid hx
  have H := Lib.hid C
  have z := C.off3
  have hxs : x.size = 7 := by rw [← bts_length, hx]; rfl
  have hx0 : 0 < x.size := by omega
  have hx0' : (0 : Int) < (x.size : Int) := by omega
  have hb0 : x[0] = 90 := by have h := bts_drop x 0 hx0; rw [List.drop_zero, hx] at h; exact (List.cons.inj h).1.symm
  have g46 : ((x[0].toNat : Int) == 46) = false := by rw [hb0]; rfl
  have g44 : ((x[0].toNat : Int) == 44) = false := by rw [hb0]; rfl
  have g90 : ((x[0].toNat : Int) == 90) = true := by rw [hb0]; rfl
  have gz : (off == 0) = true := by rw [beq_iff_eq, C.hoff]; exact h0
  have G := Lib.hid h0
  clear hb0 hxs h0
  clear e1 hx C
  conv => arg 2; whnf
  go_wp2
  exact hQ _ _ ⟨#[90]⟩ (by rfl) rfl (by show [90] = (if m.off = 0 then [90] else _); rw [if_pos G.out]) H.out.below

set_option maxRecDepth 100000 in
set_option maxHeartbeats 4000000 in
theorem wt_27_neg {x wk Z : ByteArray} {p3 p4 q7 : Nat} {yd hf off : Int} {m : Ly.Mo} {w0 W : World} {a : Act} (Q : Exit → Act → World → Prop) (C : WtCtx w0 p3 p4 q7 off Z yd hf wk m W) (ha : Wt x p3 p4 q7 yd hf wk a) (hx : bts x = [90, 48, 55, 58, 48, 48]) (h0 : m.off < 0) (hQ : WtEnd w0 (Ly.txt m 27) Q) : Code.wp Tryz.prog wtTail Q a W := by
  obtain ⟨f, rfl⟩ := ha
  have e1 : x.toList = [90, 48, 55, 58, 48, 48] := by rw [← hx]; exact Lib.toList_data x
  obtain ⟨t0, t1, t2, t3, t4, t5, t6, t7, t8, t9, t10, t11, t12, t13, t14, t15, t16, t17, t18, t19, t20, t21, t22⟩ := sw_no e1 (by decide)
  have HX := Lib.hid hx
  have H := Lib.hid C
  have z := C.off3
  have hxs : x.size = 6 := by rw [← bts_length, hx]; rfl
  have hx0 : 0 < x.size := by omega
  have hx0' : (0 : Int) < (x.size : Int) := by omega
  have hb0 : x[0] = 90 := by have h := bts_drop x 0 hx0; rw [List.drop_zero, hx] at h; exact (List.cons.inj h).1.symm
  have g46 : ((x[0].toNat : Int) == 46) = false := by rw [hb0]; rfl
  have g44 : ((x[0].toNat : Int) == 44) = false := by rw [hb0]; rfl
  have g90 : ((x[0].toNat : Int) == 90) = true := by rw [hb0]; rfl
  have gz : (off == 0) = false := by rw [beq_eq_false_iff_ne, C.hoff]; omega
  have HX3 := Lib.hid (show ∃ h : 3 < x.size, ((x[3].toNat : Int) == 58) = true from ⟨by omega, by have h := bts_drop x 3 (by omega); rw [hx] at h; rw [(List.cons.inj h).1.symm]; rfl⟩)
  have HS := Lib.hid hxs
  clear hb0 hxs
  have G := Lib.hid h0
  clear h0
  clear e1 hx C
  conv => arg 2; whnf
  go_wp2_with fail
  go_at_call 97
  refine (offset_n110 off x (by have := H.out.hoff; have := H.out.ok.off1; omega) (by have := H.out.hoff; have := H.out.ok.off; omega) (by have := H.out.hoff; have := G.out; omega) HX3.out.1 HX3.out.2 (by have := HS.out; omega) _ H.out.hp H.out.hH).mono ?_
  rintro r w1 ⟨s, rfl, hs, -, hb⟩
  have HR := Lib.hid (And.intro hs hb)
  clear hs hb
  go_wp2
  obtain ⟨hs, hb⟩ := HR.out
  exact hQ _ _ s (by rfl) rfl (by show bts s = (if m.off = 0 then [90] else zn m.off true true false); rw [if_neg (by have := G.out; omega), hs, H.out.hoff]) (H.out.below.trans (hb.mono H.out.below.size))

set_option maxRecDepth 100000 in
set_option maxHeartbeats 4000000 in
theorem wt_27_pos {x wk Z : ByteArray} {p3 p4 q7 : Nat} {yd hf off : Int} {m : Ly.Mo} {w0 W : World} {a : Act} (Q : Exit → Act → World → Prop) (C : WtCtx w0 p3 p4 q7 off Z yd hf wk m W) (ha : Wt x p3 p4 q7 yd hf wk a) (hx : bts x = [90, 48, 55, 58, 48, 48]) (h0 : 0 < m.off) (hQ : WtEnd w0 (Ly.txt m 27) Q) : Code.wp Tryz.prog wtTail Q a W := by
  obtain ⟨f, rfl⟩ := ha
  have e1 : x.toList = [90, 48, 55, 58, 48, 48] := by rw [← hx]; exact Lib.toList_data x
  obtain ⟨t0, t1, t2, t3, t4, t5, t6, t7, t8, t9, t10, t11, t12, t13, t14, t15, t16, t17, t18, t19, t20, t21, t22⟩ := sw_no e1 (by decide)
  have HX := Lib.hid hx
  have H := Lib.hid C
  have z := C.off3
  have hxs : x.size = 6 := by rw [← bts_length, hx]; rfl
  have hx0 : 0 < x.size := by omega
  have hx0' : (0 : Int) < (x.size : Int) := by omega
  have hb0 : x[0] = 90 := by have h := bts_drop x 0 hx0; rw [List.drop_zero, hx] at h; exact (List.cons.inj h).1.symm
  have g46 : ((x[0].toNat : Int) == 46) = false := by rw [hb0]; rfl
  have g44 : ((x[0].toNat : Int) == 44) = false := by rw [hb0]; rfl
  have g90 : ((x[0].toNat : Int) == 90) = true := by rw [hb0]; rfl
  have gz : (off == 0) = false := by rw [beq_eq_false_iff_ne, C.hoff]; omega
  have HX3 := Lib.hid (show ∃ h : 3 < x.size, ((x[3].toNat : Int) == 58) = true from ⟨by omega, by have h := bts_drop x 3 (by omega); rw [hx] at h; rw [(List.cons.inj h).1.symm]; rfl⟩)
  have HS := Lib.hid hxs
  clear hb0 hxs
  have G := Lib.hid h0
  clear h0
  clear e1 hx C
  conv => arg 2; whnf
  go_wp2_with fail
  go_at_call 97
  refine (offset_p110 off x (by have := H.out.hoff; have := H.out.ok.off1; omega) (by have := H.out.hoff; have := H.out.ok.off; omega) (by have := H.out.hoff; have := G.out; omega) HX3.out.1 HX3.out.2 (by have := HS.out; omega) _ H.out.hp H.out.hH).mono ?_
  rintro r w1 ⟨s, rfl, hs, -, hb⟩
  have HR := Lib.hid (And.intro hs hb)
  clear hs hb
  go_wp2
  obtain ⟨hs, hb⟩ := HR.out
  exact hQ _ _ s (by rfl) rfl (by show bts s = (if m.off = 0 then [90] else zn m.off true true false); rw [if_neg (by have := G.out; omega), hs, H.out.hoff]) (H.out.below.trans (hb.mono H.out.below.size))

set_option maxRecDepth 100000 in
set_option maxHeartbeats 4000000 in
theorem wt_27_zero {x wk Z : ByteArray} {p3 p4 q7 : Nat} {yd hf off : Int} {m : Ly.Mo} {w0 W : World} {a : Act} (Q : Exit → Act → World → Prop) (C : WtCtx w0 p3 p4 q7 off Z yd hf wk m W) (ha : Wt x p3 p4 q7 yd hf wk a) (hx : bts x = [90, 48, 55, 58, 48, 48]) (h0 : m.off = 0) (hQ : WtEnd w0 (Ly.txt m 27) Q) : Code.wp Tryz.prog wtTail Q a W := by
  obtain ⟨f, rfl⟩ := ha
  have e1 : x.toList = [90, 48, 55, 58, 48, 48] := by rw [← hx]; exact Lib.toList_data x
  obtain ⟨t0, t1, t2, t3, t4, t5, t6, t7, t8, t9, t10, t11, t12, t13, t14, t15, t16, t17, t18, t19, t20, t21, t22⟩ := sw_no e1 (by decide)
  have HX := Lib.hid hx
  have H := Lib.hid C
  have z := C.off3
  have hxs : x.size = 6 := by rw [← bts_length, hx]; rfl
  have hx0 : 0 < x.size := by omega
  have hx0' : (0 : Int) < (x.size : Int) := by omega
  have hb0 : x[0] = 90 := by have h := bts_drop x 0 hx0; rw [List.drop_zero, hx] at h; exact (List.cons.inj h).1.symm
  have g46 : ((x[0].toNat : Int) == 46) = false := by rw [hb0]; rfl
  have g44 : ((x[0].toNat : Int) == 44) = false := by rw [hb0]; rfl
  have g90 : ((x[0].toNat : Int) == 90) = true := by rw [hb0]; rfl
  have gz : (off == 0) = true := by rw [beq_iff_eq, C.hoff]; exact h0
  have G := Lib.hid h0
  clear hb0 hxs h0
  clear e1 hx C
  conv => arg 2; whnf
  go_wp2
  exact hQ _ _ ⟨#[90]⟩ (by rfl) rfl (by show [90] = (if m.off = 0 then [90] else _); rw [if_pos G.out]) H.out.below

set_option maxRecDepth 100000 in
set_option maxHeartbeats 4000000 in
theorem wt_28_neg {x wk Z : ByteArray} {p3 p4 q7 : Nat} {yd hf off : Int} {m : Ly.Mo} {w0 W : World} {a : Act} (Q : Exit → Act → World → Prop) (C : WtCtx w0 p3 p4 q7 off Z yd hf wk m W) (ha : Wt x p3 p4 q7 yd hf wk a) (hx : bts x = [90, 48, 55, 58, 48, 48, 58, 48, 48]) (h0 : m.off < 0) (hQ : WtEnd w0 (Ly.txt m 28) Q) : Code.wp Tryz.prog wtTail Q a W := by
  obtain ⟨f, rfl⟩ := ha
  have e1 : x.toList = [90, 48, 55, 58, 48, 48, 58, 48, 48] := by rw [← hx]; exact Lib.toList_data x
  obtain ⟨t0, t1, t2, t3, t4, t5, t6, t7, t8, t9, t10, t11, t12, t13, t14, t15, t16, t17, t18, t19, t20, t21, t22⟩ := sw_no e1 (by decide)
  have HX := Lib.hid hx
  have H := Lib.hid C
  have z := C.off3
  have hxs : x.size = 9 := by rw [← bts_length, hx]; rfl
  have hx0 : 0 < x.size := by omega
  have hx0' : (0 : Int) < (x.size : Int) := by omega
  have hb0 : x[0] = 90 := by have h := bts_drop x 0 hx0; rw [List.drop_zero, hx] at h; exact (List.cons.inj h).1.symm
  have g46 : ((x[0].toNat : Int) == 46) = false := by rw [hb0]; rfl
  have g44 : ((x[0].toNat : Int) == 44) = false := by rw [hb0]; rfl
  have g90 : ((x[0].toNat : Int) == 90) = true := by rw [hb0]; rfl
  have gz : (off == 0) = false := by rw [beq_eq_false_iff_ne, C.hoff]; omega
  have HX3 := Lib.hid (show ∃ h : 3 < x.size, ((x[3].toNat : Int) == 58) = true from ⟨by omega, by have h := bts_drop x 3 (by omega); rw [hx] at h; rw [(List.cons.inj h).1.symm]; rfl⟩)
  have HS := Lib.hid hxs
  clear hb0 hxs
  have G := Lib.hid h0
  clear h0
  clear e1 hx C
  conv => arg 2; whnf
  go_wp2_with fail
  go_at_call 97
  refine (offset_n111 off x (by have := H.out.hoff; have := H.out.ok.off1; omega) (by have := H.out.hoff; have := H.out.ok.off; omega) (by have := H.out.hoff; have := G.out; omega) HX3.out.1 HX3.out.2 (by have := HS.out; omega) _ H.out.hp H.out.hH).mono ?_
  rintro r w1 ⟨s, rfl, hs, -, hb⟩
  have HR := Lib.hid (And.intro hs hb)
  clear hs hb
  go_wp2
  obtain ⟨hs, hb⟩ := HR.out
  exact hQ _ _ s (by rfl) rfl (by show bts s = (if m.off = 0 then [90] else zn m.off true true true); rw [if_neg (by have := G.out; omega), hs, H.out.hoff]) (H.out.below.trans (hb.mono H.out.below.size))

set_option maxRecDepth 100000 in
set_option maxHeartbeats 4000000 in
theorem wt_28_pos {x wk Z : ByteArray} {p3 p4 q7 : Nat} {yd hf off : Int} {m : Ly.Mo} {w0 W : World} {a : Act} (Q : Exit → Act → World → Prop) (C : WtCtx w0 p3 p4 q7 off Z yd hf wk m W) (ha : Wt x p3 p4 q7 yd hf wk a) (hx : bts x = [90, 48, 55, 58, 48, 48, 58, 48, 48]) (h0 : 0 < m.off) (hQ : WtEnd w0 (Ly.txt m 28) Q) : Code.wp Tryz.prog wtTail Q a W := by
  obtain ⟨f, rfl⟩ := ha
  have e1 : x.toList = [90, 48, 55, 58, 48, 48, 58, 48, 48] := by rw [← hx]; exact Lib.toList_data x
  obtain ⟨t0, t1, t2, t3, t4, t5, t6, t7, t8, t9, t10, t11, t12, t13, t14, t15, t16, t17, t18, t19, t20, t21, t22⟩ := sw_no e1 (by decide)
  have HX := Lib.hid hx
  have H := Lib.hid C
  have z := C.off3
  have hxs : x.size = 9 := by rw [← bts_length, hx]; rfl
  have hx0 : 0 < x.size := by omega
  have hx0' : (0 : Int) < (x.size : Int) := by omega
  have hb0 : x[0] = 90 := by have h := bts_drop x 0 hx0; rw [List.drop_zero, hx] at h; exact (List.cons.inj h).1.symm
  have g46 : ((x[0].toNat : Int) == 46) = false := by rw [hb0]; rfl
  have g44 : ((x[0].toNat : Int) == 44) = false := by rw [hb0]; rfl
  have g90 : ((x[0].toNat : Int) == 90) = true := by rw [hb0]; rfl
  have gz : (off == 0) = false := by rw [beq_eq_false_iff_ne, C.hoff]; omega
  have HX3 := Lib.hid (show ∃ h : 3 < x.size, ((x[3].toNat : Int) == 58) = true from ⟨by omega, by have h := bts_drop x 3 (by omega); rw [hx] at h; rw [(List.cons.inj h).1.symm]; rfl⟩)
  have HS := Lib.hid hxs
  clear hb0 hxs
  have G := Lib.hid h0
  clear h0
  clear e1 hx C
  conv => arg 2; whnf
  go_wp2_with fail
  go_at_call 97
  refine (offset_p111 off x (by have := H.out.hoff; have := H.out.ok.off1; omega) (by have := H.out.hoff; have := H.out.ok.off; omega) (by have := H.out.hoff; have := G.out; omega) HX3.out.1 HX3.out.2 (by have := HS.out; omega) _ H.out.hp H.out.hH).mono ?_
  rintro r w1 ⟨s, rfl, hs, -, hb⟩
  have HR := Lib.hid (And.intro hs hb)
  clear hs hb
  go_wp2
  obtain ⟨hs, hb⟩ := HR.out
  exact hQ _ _ s (by rfl) rfl (by show bts s = (if m.off = 0 then [90] else zn m.off true true true); rw [if_neg (by have := G.out; omega), hs, H.out.hoff]) (H.out.below.trans (hb.mono H.out.below.size))

set_option maxRecDepth 100000 in
set_option maxHeartbeats 4000000 in
theorem wt_28_zero {x wk Z : ByteArray} {p3 p4 q7 : Nat} {yd hf off : Int} {m : Ly.Mo} {w0 W : World} {a : Act} (Q : Exit → Act → World → Prop) (C : WtCtx w0 p3 p4 q7 off Z yd hf wk m W) (ha : Wt x p3 p4 q7 yd hf wk a) (hx : bts x = [90, 48, 55, 58, 48, 48, 58, 48, 48]) (h0 : m.off = 0) (hQ : WtEnd w0 (Ly.txt m 28) Q) : Code.wp Tryz.prog wtTail Q a W := by
  obtain ⟨f, rfl⟩ := ha
  have e1 : x.toList = [90, 48, 55, 58, 48, 48, 58, 48, 48] := by rw [← hx]; exact Lib.toList_data x
  obtain ⟨t0, t1, t2, t3, t4, t5, t6, t7, t8, t9, t10, t11, t12, t13, t14, t15, t16, t17, t18, t19, t20, t21, t22⟩ := sw_no e1 (by decide)
  have HX := Lib.hid hx
  have H := Lib.hid C
  have z := C.off3
  have hxs : x.size = 9 := by rw [← bts_length, hx]; rfl
  have hx0 : 0 < x.size := by omega
  have hx0' : (0 : Int) < (x.size : Int) := by omega
  have hb0 : x[0] = 90 := by have h := bts_drop x 0 hx0; rw [List.drop_zero, hx] at h; exact (List.cons.inj h).1.symm
  have g46 : ((x[0].toNat : Int) == 46) = false := by rw [hb0]; rfl
  have g44 : ((x[0].toNat : Int) == 44) = false := by rw [hb0]; rfl
  have g90 : ((x[0].toNat : Int) == 90) = true := by rw [hb0]; rfl
  have gz : (off == 0) = true := by rw [beq_iff_eq, C.hoff]; exact h0
  have G := Lib.hid h0
  clear hb0 hxs h0
  clear e1 hx C
  conv => arg 2; whnf
  go_wp2
  exact hQ _ _ ⟨#[90]⟩ (by rfl) rfl (by show [90] = (if m.off = 0 then [90] else _); rw [if_pos G.out]) H.out.below
end Go.Proofs.YtchmhdmapknmfaaGreatDoor
