/-
  Joined: Mc1 Mc2 Mc3 Mc4. (Joined by merge.py out of several texts.)
-/
import Derived.Test.YtchmhdmapknmfaaGreatDoorYc

/-
  appendFormat: parts of a layout (printed by gen_Ma.py): 276, 275, 259, 260, 263, 265, 264, 523, 522.
-/
namespace Go.Proofs.YtchmhdmapknmfaaGreatDoor
open Go.RowKit

set_option maxRecDepth 100000 in
set_option maxHeartbeats 4000000 in
theorem sw_276 {B p : Nat} {v : Value} {l Z : ByteArray} {off A D y mo d yd h mi s : Int} {v18 v20 v92 : Value} {xs : List UInt8} {a : Act} {w : World} {m : Ly.Mo} (Q : Exit → Act → World → Prop) (hm : m.Ok) (ha : Af v l p Z off A D y mo d yd h mi s v18 (.int .i64 (276)) v20 v92 a) (hb : BR B v xs w) (hx : xs.length ≤ 890000) (hB : B ≤ w.heap.size) (hd1 : y = (m.y : Int)) (hd2 : mo = (m.mo : Int)) (hd3 : d = (m.d : Int))
    (hQ : ∀ v' a' w' u18 u19 u20 u92, Af v' l p Z off A D y mo d yd h mi s u18 u19 u20 u92 a' → BR B v' (xs ++ Ly.txt m (276)) w' → Gw v w v' w' → Q .normal a' w') : Code.wp Tryz.prog afSw Q a w := by
  obtain ⟨f, rfl⟩ := ha
  have Hb := Lib.hid hb
  have Hm := Lib.hid hm
  have hx' := Lib.hid hx
  clear hb hm hx
  conv => arg 2; whnf
  have hbit : bits BinOp.and IntKind.i64 276 65535 = 276 := by decide
  have bd0 : 0 ≤ y := by have := Hm.out.y; have := Hm.out.mo; have := Hm.out.mo1; have := Hm.out.d; have := Hm.out.d1; have := Hm.out.yd; have := Hm.out.yd1; have := Hm.out.wd; have := Hm.out.h; have := Hm.out.mi; have := Hm.out.s; omega
  have bd1 : y < 10000 := by have := Hm.out.y; have := Hm.out.mo; have := Hm.out.mo1; have := Hm.out.d; have := Hm.out.d1; have := Hm.out.yd; have := Hm.out.yd1; have := Hm.out.wd; have := Hm.out.h; have := Hm.out.mi; have := Hm.out.s; omega
  have hn := Lib.hid (show m.y % 100 < 100 by have := Hm.out.y; have := Hm.out.mo; have := Hm.out.mo1; have := Hm.out.d; have := Hm.out.d1; have := Hm.out.yd; have := Hm.out.yd1; have := Hm.out.wd; have := Hm.out.h; have := Hm.out.mi; have := Hm.out.s; omega)
  have hy := Lib.hid (show y % 100 = ((m.y % 100 : Nat) : Int) by omega)
  have HD1' := Lib.hid hd1
  have HD2' := Lib.hid hd2
  have HD3' := Lib.hid hd3
  clear hd1 hd2 hd3
  have Hg0 := Lib.hid (Gw.refl v w)
  go_wp2_with fail
  go_at_call 157
  refine (aint 2 (m.y % 100) (y % 100) hy.out _ Hb.out (.inl ⟨rfl, hn.out⟩) (by have := hx'.out; omega) hB).mono ?_
  rintro r w1 ⟨v1, rfl, hb1, hg1⟩
  have Hb1 := Lib.hid hb1
  have Hg1 := Lib.hid (Hg0.out.trans (hg1))
  have hB1 : B ≤ w1.heap.size := by have h1 := Hg1.out.1.size; omega
  clear hb1 hg1
  have HL1 := Lib.hid (Ly.pad_length (k := 2) (a := m.y % 100) (by decide) hn.out)
  go_wp2
  exact hQ _ _ _ _ _ _ _ (af_of rfl (by kernel_rfl)) (by have ht : xs ++ Ly.txt m (276) = (xs ++ Ly.pad 2 (m.y % 100)) := rfl; rw [ht]; exact Hb1.out) Hg1.out

set_option maxRecDepth 100000 in
set_option maxHeartbeats 4000000 in
theorem sw_275 {B p : Nat} {v : Value} {l Z : ByteArray} {off A D y mo d yd h mi s : Int} {v18 v20 v92 : Value} {xs : List UInt8} {a : Act} {w : World} {m : Ly.Mo} (Q : Exit → Act → World → Prop) (hm : m.Ok) (ha : Af v l p Z off A D y mo d yd h mi s v18 (.int .i64 (275)) v20 v92 a) (hb : BR B v xs w) (hx : xs.length ≤ 890000) (hB : B ≤ w.heap.size) (hd1 : y = (m.y : Int)) (hd2 : mo = (m.mo : Int)) (hd3 : d = (m.d : Int))
    (hQ : ∀ v' a' w' u18 u19 u20 u92, Af v' l p Z off A D y mo d yd h mi s u18 u19 u20 u92 a' → BR B v' (xs ++ Ly.txt m (275)) w' → Gw v w v' w' → Q .normal a' w') : Code.wp Tryz.prog afSw Q a w := by
  obtain ⟨f, rfl⟩ := ha
  have Hb := Lib.hid hb
  have Hm := Lib.hid hm
  have hx' := Lib.hid hx
  clear hb hm hx
  conv => arg 2; whnf
  have hbit : bits BinOp.and IntKind.i64 275 65535 = 275 := by decide
  have bd0 : 0 ≤ y := by have := Hm.out.y; have := Hm.out.mo; have := Hm.out.mo1; have := Hm.out.d; have := Hm.out.d1; have := Hm.out.yd; have := Hm.out.yd1; have := Hm.out.wd; have := Hm.out.h; have := Hm.out.mi; have := Hm.out.s; omega
  have bd1 : y < 10000 := by have := Hm.out.y; have := Hm.out.mo; have := Hm.out.mo1; have := Hm.out.d; have := Hm.out.d1; have := Hm.out.yd; have := Hm.out.yd1; have := Hm.out.wd; have := Hm.out.h; have := Hm.out.mi; have := Hm.out.s; omega
  have hn := Lib.hid (show m.y < 10000 by have := Hm.out.y; have := Hm.out.mo; have := Hm.out.mo1; have := Hm.out.d; have := Hm.out.d1; have := Hm.out.yd; have := Hm.out.yd1; have := Hm.out.wd; have := Hm.out.h; have := Hm.out.mi; have := Hm.out.s; omega)
  have HD1' := Lib.hid hd1
  have HD2' := Lib.hid hd2
  have HD3' := Lib.hid hd3
  clear hd1 hd2 hd3
  have Hg0 := Lib.hid (Gw.refl v w)
  go_wp2_with fail
  go_at_call 157
  refine (aint 4 (m.y) (y) HD1'.out _ Hb.out (.inr (.inl ⟨rfl, hn.out⟩)) (by have := hx'.out; omega) hB).mono ?_
  rintro r w1 ⟨v1, rfl, hb1, hg1⟩
  have Hb1 := Lib.hid hb1
  have Hg1 := Lib.hid (Hg0.out.trans (hg1))
  have hB1 : B ≤ w1.heap.size := by have h1 := Hg1.out.1.size; omega
  clear hb1 hg1
  go_wp2
  exact hQ _ _ _ _ _ _ _ (af_of rfl (by kernel_rfl)) (by have ht : xs ++ Ly.txt m (275) = (xs ++ Ly.pad 4 (m.y)) := rfl; rw [ht]; exact Hb1.out) Hg1.out

set_option maxRecDepth 100000 in
set_option maxHeartbeats 4000000 in
theorem sw_259 {B p : Nat} {v : Value} {l Z : ByteArray} {off A D y mo d yd h mi s : Int} {v18 v20 v92 : Value} {xs : List UInt8} {a : Act} {w : World} {m : Ly.Mo} (Q : Exit → Act → World → Prop) (hm : m.Ok) (ha : Af v l p Z off A D y mo d yd h mi s v18 (.int .i64 (259)) v20 v92 a) (hb : BR B v xs w) (hx : xs.length ≤ 890000) (hB : B ≤ w.heap.size) (hd1 : y = (m.y : Int)) (hd2 : mo = (m.mo : Int)) (hd3 : d = (m.d : Int))
    (hQ : ∀ v' a' w' u18 u19 u20 u92, Af v' l p Z off A D y mo d yd h mi s u18 u19 u20 u92 a' → BR B v' (xs ++ Ly.txt m (259)) w' → Gw v w v' w' → Q .normal a' w') : Code.wp Tryz.prog afSw Q a w := by
  obtain ⟨f, rfl⟩ := ha
  have Hb := Lib.hid hb
  have Hm := Lib.hid hm
  have hx' := Lib.hid hx
  clear hb hm hx
  conv => arg 2; whnf
  have hbit : bits BinOp.and IntKind.i64 259 65535 = 259 := by decide
  have bd0 : 0 ≤ mo := by have := Hm.out.y; have := Hm.out.mo; have := Hm.out.mo1; have := Hm.out.d; have := Hm.out.d1; have := Hm.out.yd; have := Hm.out.yd1; have := Hm.out.wd; have := Hm.out.h; have := Hm.out.mi; have := Hm.out.s; omega
  have bd1 : mo ≤ 12 := by have := Hm.out.y; have := Hm.out.mo; have := Hm.out.mo1; have := Hm.out.d; have := Hm.out.d1; have := Hm.out.yd; have := Hm.out.yd1; have := Hm.out.wd; have := Hm.out.h; have := Hm.out.mi; have := Hm.out.s; omega
  have hn := Lib.hid (show m.mo < 1000000000 by have := Hm.out.y; have := Hm.out.mo; have := Hm.out.mo1; have := Hm.out.d; have := Hm.out.d1; have := Hm.out.yd; have := Hm.out.yd1; have := Hm.out.wd; have := Hm.out.h; have := Hm.out.mi; have := Hm.out.s; omega)
  have HD1' := Lib.hid hd1
  have HD2' := Lib.hid hd2
  have HD3' := Lib.hid hd3
  clear hd1 hd2 hd3
  have Hg0 := Lib.hid (Gw.refl v w)
  go_wp2_with fail
  go_at_call 157
  refine (aint 0 (m.mo) (mo) HD2'.out _ Hb.out (.inr (.inr ⟨by decide, by decide, by decide, hn.out⟩)) (by have := hx'.out; omega) hB).mono ?_
  rintro r w1 ⟨v1, rfl, hb1, hg1⟩
  have Hb1 := Lib.hid hb1
  have Hg1 := Lib.hid (Hg0.out.trans (hg1))
  have hB1 : B ≤ w1.heap.size := by have h1 := Hg1.out.1.size; omega
  clear hb1 hg1
  go_wp2
  exact hQ _ _ _ _ _ _ _ (af_of rfl (by kernel_rfl)) (by have ht : xs ++ Ly.txt m (259) = (xs ++ Ly.pad 0 (m.mo)) := rfl; rw [ht]; exact Hb1.out) Hg1.out

set_option maxRecDepth 100000 in
set_option maxHeartbeats 4000000 in
theorem sw_260 {B p : Nat} {v : Value} {l Z : ByteArray} {off A D y mo d yd h mi s : Int} {v18 v20 v92 : Value} {xs : List UInt8} {a : Act} {w : World} {m : Ly.Mo} (Q : Exit → Act → World → Prop) (hm : m.Ok) (ha : Af v l p Z off A D y mo d yd h mi s v18 (.int .i64 (260)) v20 v92 a) (hb : BR B v xs w) (hx : xs.length ≤ 890000) (hB : B ≤ w.heap.size) (hd1 : y = (m.y : Int)) (hd2 : mo = (m.mo : Int)) (hd3 : d = (m.d : Int))
    (hQ : ∀ v' a' w' u18 u19 u20 u92, Af v' l p Z off A D y mo d yd h mi s u18 u19 u20 u92 a' → BR B v' (xs ++ Ly.txt m (260)) w' → Gw v w v' w' → Q .normal a' w') : Code.wp Tryz.prog afSw Q a w := by
  obtain ⟨f, rfl⟩ := ha
  have Hb := Lib.hid hb
  have Hm := Lib.hid hm
  have hx' := Lib.hid hx
  clear hb hm hx
  conv => arg 2; whnf
  have hbit : bits BinOp.and IntKind.i64 260 65535 = 260 := by decide
  have bd0 : 0 ≤ mo := by have := Hm.out.y; have := Hm.out.mo; have := Hm.out.mo1; have := Hm.out.d; have := Hm.out.d1; have := Hm.out.yd; have := Hm.out.yd1; have := Hm.out.wd; have := Hm.out.h; have := Hm.out.mi; have := Hm.out.s; omega
  have bd1 : mo ≤ 12 := by have := Hm.out.y; have := Hm.out.mo; have := Hm.out.mo1; have := Hm.out.d; have := Hm.out.d1; have := Hm.out.yd; have := Hm.out.yd1; have := Hm.out.wd; have := Hm.out.h; have := Hm.out.mi; have := Hm.out.s; omega
  have hn := Lib.hid (show m.mo < 100 by have := Hm.out.y; have := Hm.out.mo; have := Hm.out.mo1; have := Hm.out.d; have := Hm.out.d1; have := Hm.out.yd; have := Hm.out.yd1; have := Hm.out.wd; have := Hm.out.h; have := Hm.out.mi; have := Hm.out.s; omega)
  have HD1' := Lib.hid hd1
  have HD2' := Lib.hid hd2
  have HD3' := Lib.hid hd3
  clear hd1 hd2 hd3
  have Hg0 := Lib.hid (Gw.refl v w)
  go_wp2_with fail
  go_at_call 157
  refine (aint 2 (m.mo) (mo) HD2'.out _ Hb.out (.inl ⟨rfl, hn.out⟩) (by have := hx'.out; omega) hB).mono ?_
  rintro r w1 ⟨v1, rfl, hb1, hg1⟩
  have Hb1 := Lib.hid hb1
  have Hg1 := Lib.hid (Hg0.out.trans (hg1))
  have hB1 : B ≤ w1.heap.size := by have h1 := Hg1.out.1.size; omega
  clear hb1 hg1
  have HL1 := Lib.hid (Ly.pad_length (k := 2) (a := m.mo) (by decide) hn.out)
  go_wp2
  exact hQ _ _ _ _ _ _ _ (af_of rfl (by kernel_rfl)) (by have ht : xs ++ Ly.txt m (260) = (xs ++ Ly.pad 2 (m.mo)) := rfl; rw [ht]; exact Hb1.out) Hg1.out

set_option maxRecDepth 100000 in
set_option maxHeartbeats 4000000 in
theorem sw_263 {B p : Nat} {v : Value} {l Z : ByteArray} {off A D y mo d yd h mi s : Int} {v18 v20 v92 : Value} {xs : List UInt8} {a : Act} {w : World} {m : Ly.Mo} (Q : Exit → Act → World → Prop) (hm : m.Ok) (ha : Af v l p Z off A D y mo d yd h mi s v18 (.int .i64 (263)) v20 v92 a) (hb : BR B v xs w) (hx : xs.length ≤ 890000) (hB : B ≤ w.heap.size) (hd1 : y = (m.y : Int)) (hd2 : mo = (m.mo : Int)) (hd3 : d = (m.d : Int))
    (hQ : ∀ v' a' w' u18 u19 u20 u92, Af v' l p Z off A D y mo d yd h mi s u18 u19 u20 u92 a' → BR B v' (xs ++ Ly.txt m (263)) w' → Gw v w v' w' → Q .normal a' w') : Code.wp Tryz.prog afSw Q a w := by
  obtain ⟨f, rfl⟩ := ha
  have Hb := Lib.hid hb
  have Hm := Lib.hid hm
  have hx' := Lib.hid hx
  clear hb hm hx
  conv => arg 2; whnf
  have hbit : bits BinOp.and IntKind.i64 263 65535 = 263 := by decide
  have bd0 : 0 ≤ d := by have := Hm.out.y; have := Hm.out.mo; have := Hm.out.mo1; have := Hm.out.d; have := Hm.out.d1; have := Hm.out.yd; have := Hm.out.yd1; have := Hm.out.wd; have := Hm.out.h; have := Hm.out.mi; have := Hm.out.s; omega
  have bd1 : d ≤ 31 := by have := Hm.out.y; have := Hm.out.mo; have := Hm.out.mo1; have := Hm.out.d; have := Hm.out.d1; have := Hm.out.yd; have := Hm.out.yd1; have := Hm.out.wd; have := Hm.out.h; have := Hm.out.mi; have := Hm.out.s; omega
  have hn := Lib.hid (show m.d < 1000000000 by have := Hm.out.y; have := Hm.out.mo; have := Hm.out.mo1; have := Hm.out.d; have := Hm.out.d1; have := Hm.out.yd; have := Hm.out.yd1; have := Hm.out.wd; have := Hm.out.h; have := Hm.out.mi; have := Hm.out.s; omega)
  have HD1' := Lib.hid hd1
  have HD2' := Lib.hid hd2
  have HD3' := Lib.hid hd3
  clear hd1 hd2 hd3
  have Hg0 := Lib.hid (Gw.refl v w)
  go_wp2_with fail
  go_at_call 157
  refine (aint 0 (m.d) (d) HD3'.out _ Hb.out (.inr (.inr ⟨by decide, by decide, by decide, hn.out⟩)) (by have := hx'.out; omega) hB).mono ?_
  rintro r w1 ⟨v1, rfl, hb1, hg1⟩
  have Hb1 := Lib.hid hb1
  have Hg1 := Lib.hid (Hg0.out.trans (hg1))
  have hB1 : B ≤ w1.heap.size := by have h1 := Hg1.out.1.size; omega
  clear hb1 hg1
  go_wp2
  exact hQ _ _ _ _ _ _ _ (af_of rfl (by kernel_rfl)) (by have ht : xs ++ Ly.txt m (263) = (xs ++ Ly.pad 0 (m.d)) := rfl; rw [ht]; exact Hb1.out) Hg1.out

set_option maxRecDepth 100000 in
set_option maxHeartbeats 4000000 in
theorem sw_265 {B p : Nat} {v : Value} {l Z : ByteArray} {off A D y mo d yd h mi s : Int} {v18 v20 v92 : Value} {xs : List UInt8} {a : Act} {w : World} {m : Ly.Mo} (Q : Exit → Act → World → Prop) (hm : m.Ok) (ha : Af v l p Z off A D y mo d yd h mi s v18 (.int .i64 (265)) v20 v92 a) (hb : BR B v xs w) (hx : xs.length ≤ 890000) (hB : B ≤ w.heap.size) (hd1 : y = (m.y : Int)) (hd2 : mo = (m.mo : Int)) (hd3 : d = (m.d : Int))
    (hQ : ∀ v' a' w' u18 u19 u20 u92, Af v' l p Z off A D y mo d yd h mi s u18 u19 u20 u92 a' → BR B v' (xs ++ Ly.txt m (265)) w' → Gw v w v' w' → Q .normal a' w') : Code.wp Tryz.prog afSw Q a w := by
  obtain ⟨f, rfl⟩ := ha
  have Hb := Lib.hid hb
  have Hm := Lib.hid hm
  have hx' := Lib.hid hx
  clear hb hm hx
  conv => arg 2; whnf
  have hbit : bits BinOp.and IntKind.i64 265 65535 = 265 := by decide
  have bd0 : 0 ≤ d := by have := Hm.out.y; have := Hm.out.mo; have := Hm.out.mo1; have := Hm.out.d; have := Hm.out.d1; have := Hm.out.yd; have := Hm.out.yd1; have := Hm.out.wd; have := Hm.out.h; have := Hm.out.mi; have := Hm.out.s; omega
  have bd1 : d ≤ 31 := by have := Hm.out.y; have := Hm.out.mo; have := Hm.out.mo1; have := Hm.out.d; have := Hm.out.d1; have := Hm.out.yd; have := Hm.out.yd1; have := Hm.out.wd; have := Hm.out.h; have := Hm.out.mi; have := Hm.out.s; omega
  have hn := Lib.hid (show m.d < 100 by have := Hm.out.y; have := Hm.out.mo; have := Hm.out.mo1; have := Hm.out.d; have := Hm.out.d1; have := Hm.out.yd; have := Hm.out.yd1; have := Hm.out.wd; have := Hm.out.h; have := Hm.out.mi; have := Hm.out.s; omega)
  have HD1' := Lib.hid hd1
  have HD2' := Lib.hid hd2
  have HD3' := Lib.hid hd3
  clear hd1 hd2 hd3
  have Hg0 := Lib.hid (Gw.refl v w)
  go_wp2_with fail
  go_at_call 157
  refine (aint 2 (m.d) (d) HD3'.out _ Hb.out (.inl ⟨rfl, hn.out⟩) (by have := hx'.out; omega) hB).mono ?_
  rintro r w1 ⟨v1, rfl, hb1, hg1⟩
  have Hb1 := Lib.hid hb1
  have Hg1 := Lib.hid (Hg0.out.trans (hg1))
  have hB1 : B ≤ w1.heap.size := by have h1 := Hg1.out.1.size; omega
  clear hb1 hg1
  have HL1 := Lib.hid (Ly.pad_length (k := 2) (a := m.d) (by decide) hn.out)
  go_wp2
  exact hQ _ _ _ _ _ _ _ (af_of rfl (by kernel_rfl)) (by have ht : xs ++ Ly.txt m (265) = (xs ++ Ly.pad 2 (m.d)) := rfl; rw [ht]; exact Hb1.out) Hg1.out

set_option maxRecDepth 100000 in
set_option maxHeartbeats 4000000 in
theorem sw_264 {B p : Nat} {v : Value} {l Z : ByteArray} {off A D y mo d yd h mi s : Int} {v18 v20 v92 : Value} {xs : List UInt8} {a : Act} {w : World} {m : Ly.Mo} (Q : Exit → Act → World → Prop) (hm : m.Ok) (ha : Af v l p Z off A D y mo d yd h mi s v18 (.int .i64 (264)) v20 v92 a) (hb : BR B v xs w) (hx : xs.length ≤ 890000) (hB : B ≤ w.heap.size) (hd1 : y = (m.y : Int)) (hd2 : mo = (m.mo : Int)) (hd3 : d = (m.d : Int))
    (hQ : ∀ v' a' w' u18 u19 u20 u92, Af v' l p Z off A D y mo d yd h mi s u18 u19 u20 u92 a' → BR B v' (xs ++ Ly.txt m (264)) w' → Gw v w v' w' → Q .normal a' w') : Code.wp Tryz.prog afSw Q a w := by
  obtain ⟨f, rfl⟩ := ha
  have Hb := Lib.hid hb
  have Hm := Lib.hid hm
  have hx' := Lib.hid hx
  clear hb hm hx
  conv => arg 2; whnf
  have hbit : bits BinOp.and IntKind.i64 264 65535 = 264 := by decide
  have bd0 : 0 ≤ d := by have := Hm.out.y; have := Hm.out.mo; have := Hm.out.mo1; have := Hm.out.d; have := Hm.out.d1; have := Hm.out.yd; have := Hm.out.yd1; have := Hm.out.wd; have := Hm.out.h; have := Hm.out.mi; have := Hm.out.s; omega
  have bd1 : d ≤ 31 := by have := Hm.out.y; have := Hm.out.mo; have := Hm.out.mo1; have := Hm.out.d; have := Hm.out.d1; have := Hm.out.yd; have := Hm.out.yd1; have := Hm.out.wd; have := Hm.out.h; have := Hm.out.mi; have := Hm.out.s; omega
  have hn := Lib.hid (show m.d < 1000000000 by have := Hm.out.y; have := Hm.out.mo; have := Hm.out.mo1; have := Hm.out.d; have := Hm.out.d1; have := Hm.out.yd; have := Hm.out.yd1; have := Hm.out.wd; have := Hm.out.h; have := Hm.out.mi; have := Hm.out.s; omega)
  have Hq := Lib.hid hd3
  have Hq1 := Lib.hid (show 1 ≤ m.d by have := Hm.out.y; have := Hm.out.mo; have := Hm.out.mo1; have := Hm.out.d; have := Hm.out.d1; have := Hm.out.yd; have := Hm.out.yd1; have := Hm.out.wd; have := Hm.out.h; have := Hm.out.mi; have := Hm.out.s; omega)
  have HD1' := Lib.hid hd1
  have HD2' := Lib.hid hd2
  have HD3' := Lib.hid hd3
  clear hd1 hd2 hd3
  by_cases hz : m.d < 10
  · have f1 : d < 10 := by have := Hq.out; omega
    have Hz := Lib.hid hz
    clear hz
    have Hg0 := Lib.hid (Gw.refl v w)
    go_wp2_with (at_builtin; refine wpList_append_br rfl _ _ rfl rfl (Hb.out.alloc _) [32] ⟨w.heap.size, 0, none⟩ 1 1 rfl rfl cells_one (by have := hx'.out; simp only [List.length_cons, List.length_nil]; omega) (by simp only [World.alloc, Array.size_push]; omega) ?_)
    intro v1 w1 hb1 hg1
    have Hb1 := Lib.hid hb1
    have Hg1 := Lib.hid (Hg0.out.trans (((Gw.refl _ _).alloc _).trans hg1))
    have hB1 : B ≤ w1.heap.size := by have h1 := Hg1.out.1.size; omega
    clear hb1 hg1
    go_wp2_with fail
    go_at_call 157
    refine (aint 0 (m.d) (d) HD3'.out _ Hb1.out (.inr (.inr ⟨by decide, by decide, by decide, hn.out⟩)) (by have := hx'.out; simp only [List.length_append, List.length_cons, List.length_nil]; omega) hB1).mono ?_
    rintro r w2 ⟨v2, rfl, hb2, hg2⟩
    have Hb2 := Lib.hid (show BR B v2 ((xs ++ [32]) ++ Ly.pad 0 (m.d)) w2 by first | exact hb2 | (rw [List.append_assoc]; exact hb2) | simpa using hb2)
    have Hg2 := Lib.hid (Hg1.out.trans (hg2))
    have hB2 : B ≤ w2.heap.size := by have h1 := Hg2.out.1.size; omega
    clear hb2 hg2
    go_wp2
    exact hQ _ _ _ _ _ _ _ (af_of rfl (by kernel_rfl)) (by have ht : xs ++ Ly.txt m (264) = ((xs ++ [32]) ++ Ly.pad 0 (m.d)) := (by show xs ++ Ly.blank 2 m.d = _; rw [blank2_low Hz.out] <;> (try simp only [List.append_assoc, List.cons_append, List.nil_append])); rw [ht]; exact Hb2.out) Hg2.out
  · have f1 : 10 ≤ d := by have := Hq.out; omega
    have Hz := Lib.hid (show 10 ≤ m.d by omega)
    have Hy := Lib.hid (show m.d < 100 by have := Hm.out.y; have := Hm.out.mo; have := Hm.out.mo1; have := Hm.out.d; have := Hm.out.d1; have := Hm.out.yd; have := Hm.out.yd1; have := Hm.out.wd; have := Hm.out.h; have := Hm.out.mi; have := Hm.out.s; omega)
    clear hz
    have Hg0 := Lib.hid (Gw.refl v w)
    go_wp2_with fail
    go_at_call 157
    refine (aint 0 (m.d) (d) HD3'.out _ Hb.out (.inr (.inr ⟨by decide, by decide, by decide, hn.out⟩)) (by have := hx'.out; omega) hB).mono ?_
    rintro r w1 ⟨v1, rfl, hb1, hg1⟩
    have Hb1 := Lib.hid hb1
    have Hg1 := Lib.hid (Hg0.out.trans (hg1))
    have hB1 : B ≤ w1.heap.size := by have h1 := Hg1.out.1.size; omega
    clear hb1 hg1
    go_wp2
    exact hQ _ _ _ _ _ _ _ (af_of rfl (by kernel_rfl)) (by have ht : xs ++ Ly.txt m (264) = (xs ++ Ly.pad 0 (m.d)) := (by show xs ++ Ly.blank 2 m.d = _; rw [blank2_high Hz.out Hy.out]); rw [ht]; exact Hb1.out) Hg1.out

set_option maxRecDepth 100000 in
set_option maxHeartbeats 4000000 in
theorem sw_523 {B p : Nat} {v : Value} {l Z : ByteArray} {off A D y mo d yd h mi s : Int} {v18 v20 v92 : Value} {xs : List UInt8} {a : Act} {w : World} {m : Ly.Mo} (Q : Exit → Act → World → Prop) (hm : m.Ok) (ha : Af v l p Z off A D y mo d yd h mi s v18 (.int .i64 (523)) v20 v92 a) (hb : BR B v xs w) (hx : xs.length ≤ 890000) (hB : B ≤ w.heap.size) (hd1 : yd = (m.yd : Int))
    (hQ : ∀ v' a' w' u18 u19 u20 u92, Af v' l p Z off A D y mo d yd h mi s u18 u19 u20 u92 a' → BR B v' (xs ++ Ly.txt m (523)) w' → Gw v w v' w' → Q .normal a' w') : Code.wp Tryz.prog afSw Q a w := by
  obtain ⟨f, rfl⟩ := ha
  have Hb := Lib.hid hb
  have Hm := Lib.hid hm
  have hx' := Lib.hid hx
  clear hb hm hx
  conv => arg 2; whnf
  have hbit : bits BinOp.and IntKind.i64 523 65535 = 523 := by decide
  have bd0 : 0 ≤ yd := by have := Hm.out.y; have := Hm.out.mo; have := Hm.out.mo1; have := Hm.out.d; have := Hm.out.d1; have := Hm.out.yd; have := Hm.out.yd1; have := Hm.out.wd; have := Hm.out.h; have := Hm.out.mi; have := Hm.out.s; omega
  have bd1 : yd ≤ 366 := by have := Hm.out.y; have := Hm.out.mo; have := Hm.out.mo1; have := Hm.out.d; have := Hm.out.d1; have := Hm.out.yd; have := Hm.out.yd1; have := Hm.out.wd; have := Hm.out.h; have := Hm.out.mi; have := Hm.out.s; omega
  have hn := Lib.hid (show m.yd < 1000000000 by have := Hm.out.y; have := Hm.out.mo; have := Hm.out.mo1; have := Hm.out.d; have := Hm.out.d1; have := Hm.out.yd; have := Hm.out.yd1; have := Hm.out.wd; have := Hm.out.h; have := Hm.out.mi; have := Hm.out.s; omega)
  have HD1' := Lib.hid hd1
  clear hd1
  have Hg0 := Lib.hid (Gw.refl v w)
  go_wp2_with fail
  go_at_call 157
  refine (aint 3 (m.yd) (yd) HD1'.out _ Hb.out (.inr (.inr ⟨by decide, by decide, by decide, hn.out⟩)) (by have := hx'.out; omega) hB).mono ?_
  rintro r w1 ⟨v1, rfl, hb1, hg1⟩
  have Hb1 := Lib.hid hb1
  have Hg1 := Lib.hid (Hg0.out.trans (hg1))
  have hB1 : B ≤ w1.heap.size := by have h1 := Hg1.out.1.size; omega
  clear hb1 hg1
  go_wp2
  exact hQ _ _ _ _ _ _ _ (af_of rfl (by kernel_rfl)) (by have ht : xs ++ Ly.txt m (523) = (xs ++ Ly.pad 3 (m.yd)) := rfl; rw [ht]; exact Hb1.out) Hg1.out

set_option maxRecDepth 100000 in
set_option maxHeartbeats 4000000 in
theorem sw_522 {B p : Nat} {v : Value} {l Z : ByteArray} {off A D y mo d yd h mi s : Int} {v18 v20 v92 : Value} {xs : List UInt8} {a : Act} {w : World} {m : Ly.Mo} (Q : Exit → Act → World → Prop) (hm : m.Ok) (ha : Af v l p Z off A D y mo d yd h mi s v18 (.int .i64 (522)) v20 v92 a) (hb : BR B v xs w) (hx : xs.length ≤ 890000) (hB : B ≤ w.heap.size) (hd1 : yd = (m.yd : Int))
    (hQ : ∀ v' a' w' u18 u19 u20 u92, Af v' l p Z off A D y mo d yd h mi s u18 u19 u20 u92 a' → BR B v' (xs ++ Ly.txt m (522)) w' → Gw v w v' w' → Q .normal a' w') : Code.wp Tryz.prog afSw Q a w := by
  obtain ⟨f, rfl⟩ := ha
  have Hb := Lib.hid hb
  have Hm := Lib.hid hm
  have hx' := Lib.hid hx
  clear hb hm hx
  conv => arg 2; whnf
  have hbit : bits BinOp.and IntKind.i64 522 65535 = 522 := by decide
  have bd0 : 0 ≤ yd := by have := Hm.out.y; have := Hm.out.mo; have := Hm.out.mo1; have := Hm.out.d; have := Hm.out.d1; have := Hm.out.yd; have := Hm.out.yd1; have := Hm.out.wd; have := Hm.out.h; have := Hm.out.mi; have := Hm.out.s; omega
  have bd1 : yd ≤ 366 := by have := Hm.out.y; have := Hm.out.mo; have := Hm.out.mo1; have := Hm.out.d; have := Hm.out.d1; have := Hm.out.yd; have := Hm.out.yd1; have := Hm.out.wd; have := Hm.out.h; have := Hm.out.mi; have := Hm.out.s; omega
  have hn := Lib.hid (show m.yd < 1000000000 by have := Hm.out.y; have := Hm.out.mo; have := Hm.out.mo1; have := Hm.out.d; have := Hm.out.d1; have := Hm.out.yd; have := Hm.out.yd1; have := Hm.out.wd; have := Hm.out.h; have := Hm.out.mi; have := Hm.out.s; omega)
  have Hq := Lib.hid hd1
  have Hq1 := Lib.hid (show 1 ≤ m.yd by have := Hm.out.y; have := Hm.out.mo; have := Hm.out.mo1; have := Hm.out.d; have := Hm.out.d1; have := Hm.out.yd; have := Hm.out.yd1; have := Hm.out.wd; have := Hm.out.h; have := Hm.out.mi; have := Hm.out.s; omega)
  have HD1' := Lib.hid hd1
  clear hd1
  by_cases hz : m.yd < 10
  · have f1 : yd < 10 := by have := Hq.out; omega
    have f2 : yd < 100 := by omega
    have Hz := Lib.hid hz
    clear hz
    have Hg0 := Lib.hid (Gw.refl v w)
    go_wp2_with (at_builtin; refine wpList_append_br rfl _ _ rfl rfl (Hb.out.alloc _) [32] ⟨w.heap.size, 0, none⟩ 1 1 rfl rfl cells_one (by have := hx'.out; simp only [List.length_cons, List.length_nil]; omega) (by simp only [World.alloc, Array.size_push]; omega) ?_)
    intro v1 w1 hb1 hg1
    have Hb1 := Lib.hid hb1
    have Hg1 := Lib.hid (Hg0.out.trans (((Gw.refl _ _).alloc _).trans hg1))
    have hB1 : B ≤ w1.heap.size := by have h1 := Hg1.out.1.size; omega
    clear hb1 hg1
    go_wp2_with (at_builtin; refine wpList_append_br rfl _ _ rfl rfl (Hb1.out.alloc _) [32] ⟨w1.heap.size, 0, none⟩ 1 1 rfl rfl cells_one (by have := hx'.out; simp only [List.length_append, List.length_cons, List.length_nil]; omega) (by simp only [World.alloc, Array.size_push]; omega) ?_)
    intro v2 w2 hb2 hg2
    have Hb2 := Lib.hid (show BR B v2 ((xs ++ [32]) ++ [32]) w2 by first | exact hb2 | (rw [List.append_assoc]; exact hb2) | simpa using hb2)
    have Hg2 := Lib.hid (Hg1.out.trans (((Gw.refl _ _).alloc _).trans hg2))
    have hB2 : B ≤ w2.heap.size := by have h1 := Hg2.out.1.size; omega
    clear hb2 hg2
    go_wp2_with fail
    go_at_call 157
    refine (aint 0 (m.yd) (yd) HD1'.out _ Hb2.out (.inr (.inr ⟨by decide, by decide, by decide, hn.out⟩)) (by have := hx'.out; simp only [List.length_append, List.length_cons, List.length_nil]; omega) hB2).mono ?_
    rintro r w3 ⟨v3, rfl, hb3, hg3⟩
    have Hb3 := Lib.hid (show BR B v3 (((xs ++ [32]) ++ [32]) ++ Ly.pad 0 (m.yd)) w3 by first | exact hb3 | (rw [List.append_assoc]; exact hb3) | simpa using hb3)
    have Hg3 := Lib.hid (Hg2.out.trans (hg3))
    have hB3 : B ≤ w3.heap.size := by have h1 := Hg3.out.1.size; omega
    clear hb3 hg3
    go_wp2
    exact hQ _ _ _ _ _ _ _ (af_of rfl (by kernel_rfl)) (by have ht : xs ++ Ly.txt m (522) = (((xs ++ [32]) ++ [32]) ++ Ly.pad 0 (m.yd)) := (by show xs ++ Ly.blank 3 m.yd = _; rw [blank3_low Hz.out] <;> (try simp only [List.append_assoc, List.cons_append, List.nil_append])); rw [ht]; exact Hb3.out) Hg3.out
  · by_cases hy : m.yd < 100
    · have f1 : 10 ≤ yd := by have := Hq.out; omega
      have f2 : yd < 100 := by have := Hq.out; omega
      have Hz := Lib.hid (show 10 ≤ m.yd by omega)
      have Hy := Lib.hid hy
      clear hz hy
      have Hg0 := Lib.hid (Gw.refl v w)
      go_wp2_with (at_builtin; refine wpList_append_br rfl _ _ rfl rfl (Hb.out.alloc _) [32] ⟨w.heap.size, 0, none⟩ 1 1 rfl rfl cells_one (by have := hx'.out; simp only [List.length_cons, List.length_nil]; omega) (by simp only [World.alloc, Array.size_push]; omega) ?_)
      intro v1 w1 hb1 hg1
      have Hb1 := Lib.hid hb1
      have Hg1 := Lib.hid (Hg0.out.trans (((Gw.refl _ _).alloc _).trans hg1))
      have hB1 : B ≤ w1.heap.size := by have h1 := Hg1.out.1.size; omega
      clear hb1 hg1
      go_wp2_with fail
      go_at_call 157
      refine (aint 0 (m.yd) (yd) HD1'.out _ Hb1.out (.inr (.inr ⟨by decide, by decide, by decide, hn.out⟩)) (by have := hx'.out; simp only [List.length_append, List.length_cons, List.length_nil]; omega) hB1).mono ?_
      rintro r w2 ⟨v2, rfl, hb2, hg2⟩
      have Hb2 := Lib.hid (show BR B v2 ((xs ++ [32]) ++ Ly.pad 0 (m.yd)) w2 by first | exact hb2 | (rw [List.append_assoc]; exact hb2) | simpa using hb2)
      have Hg2 := Lib.hid (Hg1.out.trans (hg2))
      have hB2 : B ≤ w2.heap.size := by have h1 := Hg2.out.1.size; omega
      clear hb2 hg2
      go_wp2
      exact hQ _ _ _ _ _ _ _ (af_of rfl (by kernel_rfl)) (by have ht : xs ++ Ly.txt m (522) = ((xs ++ [32]) ++ Ly.pad 0 (m.yd)) := (by show xs ++ Ly.blank 3 m.yd = _; rw [blank3_mid Hz.out Hy.out] <;> (try simp only [List.append_assoc, List.cons_append, List.nil_append])); rw [ht]; exact Hb2.out) Hg2.out
    · have f2 : 100 ≤ yd := by have := Hq.out; omega
      have Hz := Lib.hid (show 100 ≤ m.yd by omega)
      have Hy := Lib.hid (show m.yd < 1000 by have := Hm.out.y; have := Hm.out.mo; have := Hm.out.mo1; have := Hm.out.d; have := Hm.out.d1; have := Hm.out.yd; have := Hm.out.yd1; have := Hm.out.wd; have := Hm.out.h; have := Hm.out.mi; have := Hm.out.s; omega)
      clear hz hy
      have Hg0 := Lib.hid (Gw.refl v w)
      go_wp2_with fail
      go_at_call 157
      refine (aint 0 (m.yd) (yd) HD1'.out _ Hb.out (.inr (.inr ⟨by decide, by decide, by decide, hn.out⟩)) (by have := hx'.out; omega) hB).mono ?_
      rintro r w1 ⟨v1, rfl, hb1, hg1⟩
      have Hb1 := Lib.hid hb1
      have Hg1 := Lib.hid (Hg0.out.trans (hg1))
      have hB1 : B ≤ w1.heap.size := by have h1 := Hg1.out.1.size; omega
      clear hb1 hg1
      go_wp2
      exact hQ _ _ _ _ _ _ _ (af_of rfl (by kernel_rfl)) (by have ht : xs ++ Ly.txt m (522) = (xs ++ Ly.pad 0 (m.yd)) := (by show xs ++ Ly.blank 3 m.yd = _; rw [blank3_high Hz.out Hy.out]); rw [ht]; exact Hb1.out) Hg1.out

end Go.Proofs.YtchmhdmapknmfaaGreatDoor

/-
  appendFormat: parts of a layout (printed by gen_Ma.py): 1036, 1037, 1038, 1039, 1040, 1041, 1042, 1045, 1046, 257, 258, 261, 262, frac.
-/
namespace Go.Proofs.YtchmhdmapknmfaaGreatDoor
open Go.RowKit

set_option maxRecDepth 100000 in
set_option maxHeartbeats 4000000 in
theorem sw_1036 {B p : Nat} {v : Value} {l Z : ByteArray} {off A D y mo d yd h mi s : Int} {v18 v20 v92 : Value} {xs : List UInt8} {a : Act} {w : World} {m : Ly.Mo} (Q : Exit → Act → World → Prop) (hm : m.Ok) (ha : Af v l p Z off A D y mo d yd h mi s v18 (.int .i64 (1036)) v20 v92 a) (hb : BR B v xs w) (hx : xs.length ≤ 890000) (hB : B ≤ w.heap.size) (hd1 : h = (m.h : Int)) (hd2 : mi = (m.mi : Int)) (hd3 : s = (m.s : Int))
    (hQ : ∀ v' a' w' u18 u19 u20 u92, Af v' l p Z off A D y mo d yd h mi s u18 u19 u20 u92 a' → BR B v' (xs ++ Ly.txt m (1036)) w' → Gw v w v' w' → Q .normal a' w') : Code.wp Tryz.prog afSw Q a w := by
  obtain ⟨f, rfl⟩ := ha
  have Hb := Lib.hid hb
  have Hm := Lib.hid hm
  have hx' := Lib.hid hx
  clear hb hm hx
  conv => arg 2; whnf
  have hbit : bits BinOp.and IntKind.i64 1036 65535 = 1036 := by decide
  have bd0 : 0 ≤ h := by have := Hm.out.y; have := Hm.out.mo; have := Hm.out.mo1; have := Hm.out.d; have := Hm.out.d1; have := Hm.out.yd; have := Hm.out.yd1; have := Hm.out.wd; have := Hm.out.h; have := Hm.out.mi; have := Hm.out.s; omega
  have bd1 : h < 24 := by have := Hm.out.y; have := Hm.out.mo; have := Hm.out.mo1; have := Hm.out.d; have := Hm.out.d1; have := Hm.out.yd; have := Hm.out.yd1; have := Hm.out.wd; have := Hm.out.h; have := Hm.out.mi; have := Hm.out.s; omega
  have hn := Lib.hid (show m.h < 100 by have := Hm.out.y; have := Hm.out.mo; have := Hm.out.mo1; have := Hm.out.d; have := Hm.out.d1; have := Hm.out.yd; have := Hm.out.yd1; have := Hm.out.wd; have := Hm.out.h; have := Hm.out.mi; have := Hm.out.s; omega)
  have HD1' := Lib.hid hd1
  have HD2' := Lib.hid hd2
  have HD3' := Lib.hid hd3
  clear hd1 hd2 hd3
  have Hg0 := Lib.hid (Gw.refl v w)
  go_wp2_with fail
  go_at_call 157
  refine (aint 2 (m.h) (h) HD1'.out _ Hb.out (.inl ⟨rfl, hn.out⟩) (by have := hx'.out; omega) hB).mono ?_
  rintro r w1 ⟨v1, rfl, hb1, hg1⟩
  have Hb1 := Lib.hid hb1
  have Hg1 := Lib.hid (Hg0.out.trans (hg1))
  have hB1 : B ≤ w1.heap.size := by have h1 := Hg1.out.1.size; omega
  clear hb1 hg1
  have HL1 := Lib.hid (Ly.pad_length (k := 2) (a := m.h) (by decide) hn.out)
  go_wp2
  exact hQ _ _ _ _ _ _ _ (af_of rfl (by kernel_rfl)) (by have ht : xs ++ Ly.txt m (1036) = (xs ++ Ly.pad 2 (m.h)) := rfl; rw [ht]; exact Hb1.out) Hg1.out

set_option maxRecDepth 100000 in
set_option maxHeartbeats 4000000 in
theorem sw_1037 {B p : Nat} {v : Value} {l Z : ByteArray} {off A D y mo d yd h mi s : Int} {v18 v20 v92 : Value} {xs : List UInt8} {a : Act} {w : World} {m : Ly.Mo} (Q : Exit → Act → World → Prop) (hm : m.Ok) (ha : Af v l p Z off A D y mo d yd h mi s v18 (.int .i64 (1037)) v20 v92 a) (hb : BR B v xs w) (hx : xs.length ≤ 890000) (hB : B ≤ w.heap.size) (hd1 : h = (m.h : Int)) (hd2 : mi = (m.mi : Int)) (hd3 : s = (m.s : Int))
    (hQ : ∀ v' a' w' u18 u19 u20 u92, Af v' l p Z off A D y mo d yd h mi s u18 u19 u20 u92 a' → BR B v' (xs ++ Ly.txt m (1037)) w' → Gw v w v' w' → Q .normal a' w') : Code.wp Tryz.prog afSw Q a w := by
  obtain ⟨f, rfl⟩ := ha
  have Hb := Lib.hid hb
  have Hm := Lib.hid hm
  have hx' := Lib.hid hx
  clear hb hm hx
  conv => arg 2; whnf
  have hbit : bits BinOp.and IntKind.i64 1037 65535 = 1037 := by decide
  have bd0 : 0 ≤ h := by have := Hm.out.y; have := Hm.out.mo; have := Hm.out.mo1; have := Hm.out.d; have := Hm.out.d1; have := Hm.out.yd; have := Hm.out.yd1; have := Hm.out.wd; have := Hm.out.h; have := Hm.out.mi; have := Hm.out.s; omega
  have bd1 : h < 24 := by have := Hm.out.y; have := Hm.out.mo; have := Hm.out.mo1; have := Hm.out.d; have := Hm.out.d1; have := Hm.out.yd; have := Hm.out.yd1; have := Hm.out.wd; have := Hm.out.h; have := Hm.out.mi; have := Hm.out.s; omega
  have Hh := Lib.hid hd1
  have HD1' := Lib.hid hd1
  have HD2' := Lib.hid hd2
  have HD3' := Lib.hid hd3
  clear hd1 hd2 hd3
  by_cases hz : m.h % 12 = 0
  · have f1 : (h % 12 == 0) = true := by rw [beq_iff_eq]; have := Hh.out; omega
    have Hz := Lib.hid hz
    clear hz
    have hn := Lib.hid (show 12 < 1000000000 by have := Hm.out.y; have := Hm.out.mo; have := Hm.out.mo1; have := Hm.out.d; have := Hm.out.d1; have := Hm.out.yd; have := Hm.out.yd1; have := Hm.out.wd; have := Hm.out.h; have := Hm.out.mi; have := Hm.out.s; omega)
    have Hg0 := Lib.hid (Gw.refl v w)
    go_wp2_with fail
    go_at_call 157
    refine (aint 0 (12) (12) rfl _ Hb.out (.inr (.inr ⟨by decide, by decide, by decide, hn.out⟩)) (by have := hx'.out; omega) hB).mono ?_
    rintro r w1 ⟨v1, rfl, hb1, hg1⟩
    have Hb1 := Lib.hid hb1
    have Hg1 := Lib.hid (Hg0.out.trans (hg1))
    have hB1 : B ≤ w1.heap.size := by have h1 := Hg1.out.1.size; omega
    clear hb1 hg1
    go_wp2
    exact hQ _ _ _ _ _ _ _ (af_of rfl (by kernel_rfl)) (by have ht : xs ++ Ly.txt m (1037) = (xs ++ Ly.pad 0 (12)) := (by show xs ++ Ly.pad 0 (Ly.half m.h) = _; rw [Ly.half, if_pos Hz.out]); rw [ht]; exact Hb1.out) Hg1.out
  · have f1 : (h % 12 == 0) = false := by rw [beq_eq_false_iff_ne]; have := Hh.out; omega
    have Hz := Lib.hid hz
    clear hz
    have hn := Lib.hid (show m.h % 12 < 1000000000 by have := Hm.out.y; have := Hm.out.mo; have := Hm.out.mo1; have := Hm.out.d; have := Hm.out.d1; have := Hm.out.yd; have := Hm.out.yd1; have := Hm.out.wd; have := Hm.out.h; have := Hm.out.mi; have := Hm.out.s; omega)
    have Hg0 := Lib.hid (Gw.refl v w)
    go_wp2_with fail
    go_at_call 157
    refine (aint 0 (m.h % 12) (h % 12) (by have := Hh.out; omega) _ Hb.out (.inr (.inr ⟨by decide, by decide, by decide, hn.out⟩)) (by have := hx'.out; omega) hB).mono ?_
    rintro r w1 ⟨v1, rfl, hb1, hg1⟩
    have Hb1 := Lib.hid hb1
    have Hg1 := Lib.hid (Hg0.out.trans (hg1))
    have hB1 : B ≤ w1.heap.size := by have h1 := Hg1.out.1.size; omega
    clear hb1 hg1
    go_wp2
    exact hQ _ _ _ _ _ _ _ (af_of rfl (by kernel_rfl)) (by have ht : xs ++ Ly.txt m (1037) = (xs ++ Ly.pad 0 (m.h % 12)) := (by show xs ++ Ly.pad 0 (Ly.half m.h) = _; rw [Ly.half, if_neg Hz.out]); rw [ht]; exact Hb1.out) Hg1.out

set_option maxRecDepth 100000 in
set_option maxHeartbeats 4000000 in
theorem sw_1038 {B p : Nat} {v : Value} {l Z : ByteArray} {off A D y mo d yd h mi s : Int} {v18 v20 v92 : Value} {xs : List UInt8} {a : Act} {w : World} {m : Ly.Mo} (Q : Exit → Act → World → Prop) (hm : m.Ok) (ha : Af v l p Z off A D y mo d yd h mi s v18 (.int .i64 (1038)) v20 v92 a) (hb : BR B v xs w) (hx : xs.length ≤ 890000) (hB : B ≤ w.heap.size) (hd1 : h = (m.h : Int)) (hd2 : mi = (m.mi : Int)) (hd3 : s = (m.s : Int))
    (hQ : ∀ v' a' w' u18 u19 u20 u92, Af v' l p Z off A D y mo d yd h mi s u18 u19 u20 u92 a' → BR B v' (xs ++ Ly.txt m (1038)) w' → Gw v w v' w' → Q .normal a' w') : Code.wp Tryz.prog afSw Q a w := by
  obtain ⟨f, rfl⟩ := ha
  have Hb := Lib.hid hb
  have Hm := Lib.hid hm
  have hx' := Lib.hid hx
  clear hb hm hx
  conv => arg 2; whnf
  have hbit : bits BinOp.and IntKind.i64 1038 65535 = 1038 := by decide
  have bd0 : 0 ≤ h := by have := Hm.out.y; have := Hm.out.mo; have := Hm.out.mo1; have := Hm.out.d; have := Hm.out.d1; have := Hm.out.yd; have := Hm.out.yd1; have := Hm.out.wd; have := Hm.out.h; have := Hm.out.mi; have := Hm.out.s; omega
  have bd1 : h < 24 := by have := Hm.out.y; have := Hm.out.mo; have := Hm.out.mo1; have := Hm.out.d; have := Hm.out.d1; have := Hm.out.yd; have := Hm.out.yd1; have := Hm.out.wd; have := Hm.out.h; have := Hm.out.mi; have := Hm.out.s; omega
  have Hh := Lib.hid hd1
  have HD1' := Lib.hid hd1
  have HD2' := Lib.hid hd2
  have HD3' := Lib.hid hd3
  clear hd1 hd2 hd3
  by_cases hz : m.h % 12 = 0
  · have f1 : (h % 12 == 0) = true := by rw [beq_iff_eq]; have := Hh.out; omega
    have Hz := Lib.hid hz
    clear hz
    have hn := Lib.hid (show 12 < 100 by have := Hm.out.y; have := Hm.out.mo; have := Hm.out.mo1; have := Hm.out.d; have := Hm.out.d1; have := Hm.out.yd; have := Hm.out.yd1; have := Hm.out.wd; have := Hm.out.h; have := Hm.out.mi; have := Hm.out.s; omega)
    have Hg0 := Lib.hid (Gw.refl v w)
    go_wp2_with fail
    go_at_call 157
    refine (aint 2 (12) (12) rfl _ Hb.out (.inl ⟨rfl, hn.out⟩) (by have := hx'.out; omega) hB).mono ?_
    rintro r w1 ⟨v1, rfl, hb1, hg1⟩
    have Hb1 := Lib.hid hb1
    have Hg1 := Lib.hid (Hg0.out.trans (hg1))
    have hB1 : B ≤ w1.heap.size := by have h1 := Hg1.out.1.size; omega
    clear hb1 hg1
    have HL1 := Lib.hid (Ly.pad_length (k := 2) (a := 12) (by decide) hn.out)
    go_wp2
    exact hQ _ _ _ _ _ _ _ (af_of rfl (by kernel_rfl)) (by have ht : xs ++ Ly.txt m (1038) = (xs ++ Ly.pad 2 (12)) := (by show xs ++ Ly.pad 2 (Ly.half m.h) = _; rw [Ly.half, if_pos Hz.out]); rw [ht]; exact Hb1.out) Hg1.out
  · have f1 : (h % 12 == 0) = false := by rw [beq_eq_false_iff_ne]; have := Hh.out; omega
    have Hz := Lib.hid hz
    clear hz
    have hn := Lib.hid (show m.h % 12 < 100 by have := Hm.out.y; have := Hm.out.mo; have := Hm.out.mo1; have := Hm.out.d; have := Hm.out.d1; have := Hm.out.yd; have := Hm.out.yd1; have := Hm.out.wd; have := Hm.out.h; have := Hm.out.mi; have := Hm.out.s; omega)
    have Hg0 := Lib.hid (Gw.refl v w)
    go_wp2_with fail
    go_at_call 157
    refine (aint 2 (m.h % 12) (h % 12) (by have := Hh.out; omega) _ Hb.out (.inl ⟨rfl, hn.out⟩) (by have := hx'.out; omega) hB).mono ?_
    rintro r w1 ⟨v1, rfl, hb1, hg1⟩
    have Hb1 := Lib.hid hb1
    have Hg1 := Lib.hid (Hg0.out.trans (hg1))
    have hB1 : B ≤ w1.heap.size := by have h1 := Hg1.out.1.size; omega
    clear hb1 hg1
    have HL1 := Lib.hid (Ly.pad_length (k := 2) (a := m.h % 12) (by decide) hn.out)
    go_wp2
    exact hQ _ _ _ _ _ _ _ (af_of rfl (by kernel_rfl)) (by have ht : xs ++ Ly.txt m (1038) = (xs ++ Ly.pad 2 (m.h % 12)) := (by show xs ++ Ly.pad 2 (Ly.half m.h) = _; rw [Ly.half, if_neg Hz.out]); rw [ht]; exact Hb1.out) Hg1.out

set_option maxRecDepth 100000 in
set_option maxHeartbeats 4000000 in
theorem sw_1039 {B p : Nat} {v : Value} {l Z : ByteArray} {off A D y mo d yd h mi s : Int} {v18 v20 v92 : Value} {xs : List UInt8} {a : Act} {w : World} {m : Ly.Mo} (Q : Exit → Act → World → Prop) (hm : m.Ok) (ha : Af v l p Z off A D y mo d yd h mi s v18 (.int .i64 (1039)) v20 v92 a) (hb : BR B v xs w) (hx : xs.length ≤ 890000) (hB : B ≤ w.heap.size) (hd1 : h = (m.h : Int)) (hd2 : mi = (m.mi : Int)) (hd3 : s = (m.s : Int))
    (hQ : ∀ v' a' w' u18 u19 u20 u92, Af v' l p Z off A D y mo d yd h mi s u18 u19 u20 u92 a' → BR B v' (xs ++ Ly.txt m (1039)) w' → Gw v w v' w' → Q .normal a' w') : Code.wp Tryz.prog afSw Q a w := by
  obtain ⟨f, rfl⟩ := ha
  have Hb := Lib.hid hb
  have Hm := Lib.hid hm
  have hx' := Lib.hid hx
  clear hb hm hx
  conv => arg 2; whnf
  have hbit : bits BinOp.and IntKind.i64 1039 65535 = 1039 := by decide
  have bd0 : 0 ≤ mi := by have := Hm.out.y; have := Hm.out.mo; have := Hm.out.mo1; have := Hm.out.d; have := Hm.out.d1; have := Hm.out.yd; have := Hm.out.yd1; have := Hm.out.wd; have := Hm.out.h; have := Hm.out.mi; have := Hm.out.s; omega
  have bd1 : mi < 60 := by have := Hm.out.y; have := Hm.out.mo; have := Hm.out.mo1; have := Hm.out.d; have := Hm.out.d1; have := Hm.out.yd; have := Hm.out.yd1; have := Hm.out.wd; have := Hm.out.h; have := Hm.out.mi; have := Hm.out.s; omega
  have hn := Lib.hid (show m.mi < 1000000000 by have := Hm.out.y; have := Hm.out.mo; have := Hm.out.mo1; have := Hm.out.d; have := Hm.out.d1; have := Hm.out.yd; have := Hm.out.yd1; have := Hm.out.wd; have := Hm.out.h; have := Hm.out.mi; have := Hm.out.s; omega)
  have HD1' := Lib.hid hd1
  have HD2' := Lib.hid hd2
  have HD3' := Lib.hid hd3
  clear hd1 hd2 hd3
  have Hg0 := Lib.hid (Gw.refl v w)
  go_wp2_with fail
  go_at_call 157
  refine (aint 0 (m.mi) (mi) HD2'.out _ Hb.out (.inr (.inr ⟨by decide, by decide, by decide, hn.out⟩)) (by have := hx'.out; omega) hB).mono ?_
  rintro r w1 ⟨v1, rfl, hb1, hg1⟩
  have Hb1 := Lib.hid hb1
  have Hg1 := Lib.hid (Hg0.out.trans (hg1))
  have hB1 : B ≤ w1.heap.size := by have h1 := Hg1.out.1.size; omega
  clear hb1 hg1
  go_wp2
  exact hQ _ _ _ _ _ _ _ (af_of rfl (by kernel_rfl)) (by have ht : xs ++ Ly.txt m (1039) = (xs ++ Ly.pad 0 (m.mi)) := rfl; rw [ht]; exact Hb1.out) Hg1.out

set_option maxRecDepth 100000 in
set_option maxHeartbeats 4000000 in
theorem sw_1040 {B p : Nat} {v : Value} {l Z : ByteArray} {off A D y mo d yd h mi s : Int} {v18 v20 v92 : Value} {xs : List UInt8} {a : Act} {w : World} {m : Ly.Mo} (Q : Exit → Act → World → Prop) (hm : m.Ok) (ha : Af v l p Z off A D y mo d yd h mi s v18 (.int .i64 (1040)) v20 v92 a) (hb : BR B v xs w) (hx : xs.length ≤ 890000) (hB : B ≤ w.heap.size) (hd1 : h = (m.h : Int)) (hd2 : mi = (m.mi : Int)) (hd3 : s = (m.s : Int))
    (hQ : ∀ v' a' w' u18 u19 u20 u92, Af v' l p Z off A D y mo d yd h mi s u18 u19 u20 u92 a' → BR B v' (xs ++ Ly.txt m (1040)) w' → Gw v w v' w' → Q .normal a' w') : Code.wp Tryz.prog afSw Q a w := by
  obtain ⟨f, rfl⟩ := ha
  have Hb := Lib.hid hb
  have Hm := Lib.hid hm
  have hx' := Lib.hid hx
  clear hb hm hx
  conv => arg 2; whnf
  have hbit : bits BinOp.and IntKind.i64 1040 65535 = 1040 := by decide
  have bd0 : 0 ≤ mi := by have := Hm.out.y; have := Hm.out.mo; have := Hm.out.mo1; have := Hm.out.d; have := Hm.out.d1; have := Hm.out.yd; have := Hm.out.yd1; have := Hm.out.wd; have := Hm.out.h; have := Hm.out.mi; have := Hm.out.s; omega
  have bd1 : mi < 60 := by have := Hm.out.y; have := Hm.out.mo; have := Hm.out.mo1; have := Hm.out.d; have := Hm.out.d1; have := Hm.out.yd; have := Hm.out.yd1; have := Hm.out.wd; have := Hm.out.h; have := Hm.out.mi; have := Hm.out.s; omega
  have hn := Lib.hid (show m.mi < 100 by have := Hm.out.y; have := Hm.out.mo; have := Hm.out.mo1; have := Hm.out.d; have := Hm.out.d1; have := Hm.out.yd; have := Hm.out.yd1; have := Hm.out.wd; have := Hm.out.h; have := Hm.out.mi; have := Hm.out.s; omega)
  have HD1' := Lib.hid hd1
  have HD2' := Lib.hid hd2
  have HD3' := Lib.hid hd3
  clear hd1 hd2 hd3
  have Hg0 := Lib.hid (Gw.refl v w)
  go_wp2_with fail
  go_at_call 157
  refine (aint 2 (m.mi) (mi) HD2'.out _ Hb.out (.inl ⟨rfl, hn.out⟩) (by have := hx'.out; omega) hB).mono ?_
  rintro r w1 ⟨v1, rfl, hb1, hg1⟩
  have Hb1 := Lib.hid hb1
  have Hg1 := Lib.hid (Hg0.out.trans (hg1))
  have hB1 : B ≤ w1.heap.size := by have h1 := Hg1.out.1.size; omega
  clear hb1 hg1
  have HL1 := Lib.hid (Ly.pad_length (k := 2) (a := m.mi) (by decide) hn.out)
  go_wp2
  exact hQ _ _ _ _ _ _ _ (af_of rfl (by kernel_rfl)) (by have ht : xs ++ Ly.txt m (1040) = (xs ++ Ly.pad 2 (m.mi)) := rfl; rw [ht]; exact Hb1.out) Hg1.out

set_option maxRecDepth 100000 in
set_option maxHeartbeats 4000000 in
theorem sw_1041 {B p : Nat} {v : Value} {l Z : ByteArray} {off A D y mo d yd h mi s : Int} {v18 v20 v92 : Value} {xs : List UInt8} {a : Act} {w : World} {m : Ly.Mo} (Q : Exit → Act → World → Prop) (hm : m.Ok) (ha : Af v l p Z off A D y mo d yd h mi s v18 (.int .i64 (1041)) v20 v92 a) (hb : BR B v xs w) (hx : xs.length ≤ 890000) (hB : B ≤ w.heap.size) (hd1 : h = (m.h : Int)) (hd2 : mi = (m.mi : Int)) (hd3 : s = (m.s : Int))
    (hQ : ∀ v' a' w' u18 u19 u20 u92, Af v' l p Z off A D y mo d yd h mi s u18 u19 u20 u92 a' → BR B v' (xs ++ Ly.txt m (1041)) w' → Gw v w v' w' → Q .normal a' w') : Code.wp Tryz.prog afSw Q a w := by
  obtain ⟨f, rfl⟩ := ha
  have Hb := Lib.hid hb
  have Hm := Lib.hid hm
  have hx' := Lib.hid hx
  clear hb hm hx
  conv => arg 2; whnf
  have hbit : bits BinOp.and IntKind.i64 1041 65535 = 1041 := by decide
  have bd0 : 0 ≤ s := by have := Hm.out.y; have := Hm.out.mo; have := Hm.out.mo1; have := Hm.out.d; have := Hm.out.d1; have := Hm.out.yd; have := Hm.out.yd1; have := Hm.out.wd; have := Hm.out.h; have := Hm.out.mi; have := Hm.out.s; omega
  have bd1 : s < 60 := by have := Hm.out.y; have := Hm.out.mo; have := Hm.out.mo1; have := Hm.out.d; have := Hm.out.d1; have := Hm.out.yd; have := Hm.out.yd1; have := Hm.out.wd; have := Hm.out.h; have := Hm.out.mi; have := Hm.out.s; omega
  have hn := Lib.hid (show m.s < 1000000000 by have := Hm.out.y; have := Hm.out.mo; have := Hm.out.mo1; have := Hm.out.d; have := Hm.out.d1; have := Hm.out.yd; have := Hm.out.yd1; have := Hm.out.wd; have := Hm.out.h; have := Hm.out.mi; have := Hm.out.s; omega)
  have HD1' := Lib.hid hd1
  have HD2' := Lib.hid hd2
  have HD3' := Lib.hid hd3
  clear hd1 hd2 hd3
  have Hg0 := Lib.hid (Gw.refl v w)
  go_wp2_with fail
  go_at_call 157
  refine (aint 0 (m.s) (s) HD3'.out _ Hb.out (.inr (.inr ⟨by decide, by decide, by decide, hn.out⟩)) (by have := hx'.out; omega) hB).mono ?_
  rintro r w1 ⟨v1, rfl, hb1, hg1⟩
  have Hb1 := Lib.hid hb1
  have Hg1 := Lib.hid (Hg0.out.trans (hg1))
  have hB1 : B ≤ w1.heap.size := by have h1 := Hg1.out.1.size; omega
  clear hb1 hg1
  go_wp2
  exact hQ _ _ _ _ _ _ _ (af_of rfl (by kernel_rfl)) (by have ht : xs ++ Ly.txt m (1041) = (xs ++ Ly.pad 0 (m.s)) := rfl; rw [ht]; exact Hb1.out) Hg1.out

set_option maxRecDepth 100000 in
set_option maxHeartbeats 4000000 in
theorem sw_1042 {B p : Nat} {v : Value} {l Z : ByteArray} {off A D y mo d yd h mi s : Int} {v18 v20 v92 : Value} {xs : List UInt8} {a : Act} {w : World} {m : Ly.Mo} (Q : Exit → Act → World → Prop) (hm : m.Ok) (ha : Af v l p Z off A D y mo d yd h mi s v18 (.int .i64 (1042)) v20 v92 a) (hb : BR B v xs w) (hx : xs.length ≤ 890000) (hB : B ≤ w.heap.size) (hd1 : h = (m.h : Int)) (hd2 : mi = (m.mi : Int)) (hd3 : s = (m.s : Int))
    (hQ : ∀ v' a' w' u18 u19 u20 u92, Af v' l p Z off A D y mo d yd h mi s u18 u19 u20 u92 a' → BR B v' (xs ++ Ly.txt m (1042)) w' → Gw v w v' w' → Q .normal a' w') : Code.wp Tryz.prog afSw Q a w := by
  obtain ⟨f, rfl⟩ := ha
  have Hb := Lib.hid hb
  have Hm := Lib.hid hm
  have hx' := Lib.hid hx
  clear hb hm hx
  conv => arg 2; whnf
  have hbit : bits BinOp.and IntKind.i64 1042 65535 = 1042 := by decide
  have bd0 : 0 ≤ s := by have := Hm.out.y; have := Hm.out.mo; have := Hm.out.mo1; have := Hm.out.d; have := Hm.out.d1; have := Hm.out.yd; have := Hm.out.yd1; have := Hm.out.wd; have := Hm.out.h; have := Hm.out.mi; have := Hm.out.s; omega
  have bd1 : s < 60 := by have := Hm.out.y; have := Hm.out.mo; have := Hm.out.mo1; have := Hm.out.d; have := Hm.out.d1; have := Hm.out.yd; have := Hm.out.yd1; have := Hm.out.wd; have := Hm.out.h; have := Hm.out.mi; have := Hm.out.s; omega
  have hn := Lib.hid (show m.s < 100 by have := Hm.out.y; have := Hm.out.mo; have := Hm.out.mo1; have := Hm.out.d; have := Hm.out.d1; have := Hm.out.yd; have := Hm.out.yd1; have := Hm.out.wd; have := Hm.out.h; have := Hm.out.mi; have := Hm.out.s; omega)
  have HD1' := Lib.hid hd1
  have HD2' := Lib.hid hd2
  have HD3' := Lib.hid hd3
  clear hd1 hd2 hd3
  have Hg0 := Lib.hid (Gw.refl v w)
  go_wp2_with fail
  go_at_call 157
  refine (aint 2 (m.s) (s) HD3'.out _ Hb.out (.inl ⟨rfl, hn.out⟩) (by have := hx'.out; omega) hB).mono ?_
  rintro r w1 ⟨v1, rfl, hb1, hg1⟩
  have Hb1 := Lib.hid hb1
  have Hg1 := Lib.hid (Hg0.out.trans (hg1))
  have hB1 : B ≤ w1.heap.size := by have h1 := Hg1.out.1.size; omega
  clear hb1 hg1
  have HL1 := Lib.hid (Ly.pad_length (k := 2) (a := m.s) (by decide) hn.out)
  go_wp2
  exact hQ _ _ _ _ _ _ _ (af_of rfl (by kernel_rfl)) (by have ht : xs ++ Ly.txt m (1042) = (xs ++ Ly.pad 2 (m.s)) := rfl; rw [ht]; exact Hb1.out) Hg1.out

set_option maxRecDepth 100000 in
set_option maxHeartbeats 4000000 in
theorem sw_1045 {B p : Nat} {v : Value} {l Z : ByteArray} {off A D y mo d yd h mi s : Int} {v18 v20 v92 : Value} {xs : List UInt8} {a : Act} {w : World} {m : Ly.Mo} (Q : Exit → Act → World → Prop) (hm : m.Ok) (ha : Af v l p Z off A D y mo d yd h mi s v18 (.int .i64 (1045)) v20 v92 a) (hb : BR B v xs w) (hx : xs.length ≤ 890000) (hB : B ≤ w.heap.size) (hd1 : h = (m.h : Int)) (hd2 : mi = (m.mi : Int)) (hd3 : s = (m.s : Int))
    (hQ : ∀ v' a' w' u18 u19 u20 u92, Af v' l p Z off A D y mo d yd h mi s u18 u19 u20 u92 a' → BR B v' (xs ++ Ly.txt m (1045)) w' → Gw v w v' w' → Q .normal a' w') : Code.wp Tryz.prog afSw Q a w := by
  obtain ⟨f, rfl⟩ := ha
  have Hb := Lib.hid hb
  have Hm := Lib.hid hm
  have hx' := Lib.hid hx
  clear hb hm hx
  conv => arg 2; whnf
  have hbit : bits BinOp.and IntKind.i64 1045 65535 = 1045 := by decide
  have bd0 : 0 ≤ h := by have := Hm.out.y; have := Hm.out.mo; have := Hm.out.mo1; have := Hm.out.d; have := Hm.out.d1; have := Hm.out.yd; have := Hm.out.yd1; have := Hm.out.wd; have := Hm.out.h; have := Hm.out.mi; have := Hm.out.s; omega
  have bd1 : h < 24 := by have := Hm.out.y; have := Hm.out.mo; have := Hm.out.mo1; have := Hm.out.d; have := Hm.out.d1; have := Hm.out.yd; have := Hm.out.yd1; have := Hm.out.wd; have := Hm.out.h; have := Hm.out.mi; have := Hm.out.s; omega
  have Hh := Lib.hid hd1
  have HD1' := Lib.hid hd1
  have HD2' := Lib.hid hd2
  have HD3' := Lib.hid hd3
  clear hd1 hd2 hd3
  by_cases hz : 12 ≤ m.h
  · have f1 : 12 ≤ h := by have := Hh.out; omega
    have Hz := Lib.hid hz
    clear hz
    have hsz := Lib.hid (show (⟨#[80, 77]⟩ : ByteArray).size = 2 from rfl)
    have Hg0 := Lib.hid (Gw.refl v w)
    go_wp2_with (at_builtin; refine wpList_append_br_str rfl _ _ rfl rfl Hb.out ⟨#[80, 77]⟩ rfl (by have := hx'.out; have := hsz.out; omega) hB ?_)
    intro v1 w1 hb1 hg1
    have Hb1 := Lib.hid hb1
    have Hg1 := Lib.hid (Hg0.out.trans (hg1))
    have hB1 : B ≤ w1.heap.size := by have h1 := Hg1.out.1.size; omega
    clear hb1 hg1
    go_wp2
    exact hQ _ _ _ _ _ _ _ (af_of rfl (by kernel_rfl)) (by have ht : xs ++ Ly.txt m (1045) = (xs ++ bts (⟨#[80, 77]⟩)) := (by show xs ++ (if 12 ≤ m.h then _ else _) = _; rw [if_pos Hz.out]); rw [ht]; exact Hb1.out) Hg1.out
  · have f1 : h < 12 := by have := Hh.out; omega
    have Hz := Lib.hid hz
    clear hz
    have hsz := Lib.hid (show (⟨#[65, 77]⟩ : ByteArray).size = 2 from rfl)
    have Hg0 := Lib.hid (Gw.refl v w)
    go_wp2_with (at_builtin; refine wpList_append_br_str rfl _ _ rfl rfl Hb.out ⟨#[65, 77]⟩ rfl (by have := hx'.out; have := hsz.out; omega) hB ?_)
    intro v1 w1 hb1 hg1
    have Hb1 := Lib.hid hb1
    have Hg1 := Lib.hid (Hg0.out.trans (hg1))
    have hB1 : B ≤ w1.heap.size := by have h1 := Hg1.out.1.size; omega
    clear hb1 hg1
    go_wp2
    exact hQ _ _ _ _ _ _ _ (af_of rfl (by kernel_rfl)) (by have ht : xs ++ Ly.txt m (1045) = (xs ++ bts (⟨#[65, 77]⟩)) := (by show xs ++ (if 12 ≤ m.h then _ else _) = _; rw [if_neg Hz.out]); rw [ht]; exact Hb1.out) Hg1.out

set_option maxRecDepth 100000 in
set_option maxHeartbeats 4000000 in
theorem sw_1046 {B p : Nat} {v : Value} {l Z : ByteArray} {off A D y mo d yd h mi s : Int} {v18 v20 v92 : Value} {xs : List UInt8} {a : Act} {w : World} {m : Ly.Mo} (Q : Exit → Act → World → Prop) (hm : m.Ok) (ha : Af v l p Z off A D y mo d yd h mi s v18 (.int .i64 (1046)) v20 v92 a) (hb : BR B v xs w) (hx : xs.length ≤ 890000) (hB : B ≤ w.heap.size) (hd1 : h = (m.h : Int)) (hd2 : mi = (m.mi : Int)) (hd3 : s = (m.s : Int))
    (hQ : ∀ v' a' w' u18 u19 u20 u92, Af v' l p Z off A D y mo d yd h mi s u18 u19 u20 u92 a' → BR B v' (xs ++ Ly.txt m (1046)) w' → Gw v w v' w' → Q .normal a' w') : Code.wp Tryz.prog afSw Q a w := by
  obtain ⟨f, rfl⟩ := ha
  have Hb := Lib.hid hb
  have Hm := Lib.hid hm
  have hx' := Lib.hid hx
  clear hb hm hx
  conv => arg 2; whnf
  have hbit : bits BinOp.and IntKind.i64 1046 65535 = 1046 := by decide
  have bd0 : 0 ≤ h := by have := Hm.out.y; have := Hm.out.mo; have := Hm.out.mo1; have := Hm.out.d; have := Hm.out.d1; have := Hm.out.yd; have := Hm.out.yd1; have := Hm.out.wd; have := Hm.out.h; have := Hm.out.mi; have := Hm.out.s; omega
  have bd1 : h < 24 := by have := Hm.out.y; have := Hm.out.mo; have := Hm.out.mo1; have := Hm.out.d; have := Hm.out.d1; have := Hm.out.yd; have := Hm.out.yd1; have := Hm.out.wd; have := Hm.out.h; have := Hm.out.mi; have := Hm.out.s; omega
  have Hh := Lib.hid hd1
  have HD1' := Lib.hid hd1
  have HD2' := Lib.hid hd2
  have HD3' := Lib.hid hd3
  clear hd1 hd2 hd3
  by_cases hz : 12 ≤ m.h
  · have f1 : 12 ≤ h := by have := Hh.out; omega
    have Hz := Lib.hid hz
    clear hz
    have hsz := Lib.hid (show (⟨#[112, 109]⟩ : ByteArray).size = 2 from rfl)
    have Hg0 := Lib.hid (Gw.refl v w)
    go_wp2_with (at_builtin; refine wpList_append_br_str rfl _ _ rfl rfl Hb.out ⟨#[112, 109]⟩ rfl (by have := hx'.out; have := hsz.out; omega) hB ?_)
    intro v1 w1 hb1 hg1
    have Hb1 := Lib.hid hb1
    have Hg1 := Lib.hid (Hg0.out.trans (hg1))
    have hB1 : B ≤ w1.heap.size := by have h1 := Hg1.out.1.size; omega
    clear hb1 hg1
    go_wp2
    exact hQ _ _ _ _ _ _ _ (af_of rfl (by kernel_rfl)) (by have ht : xs ++ Ly.txt m (1046) = (xs ++ bts (⟨#[112, 109]⟩)) := (by show xs ++ (if 12 ≤ m.h then _ else _) = _; rw [if_pos Hz.out]); rw [ht]; exact Hb1.out) Hg1.out
  · have f1 : h < 12 := by have := Hh.out; omega
    have Hz := Lib.hid hz
    clear hz
    have hsz := Lib.hid (show (⟨#[97, 109]⟩ : ByteArray).size = 2 from rfl)
    have Hg0 := Lib.hid (Gw.refl v w)
    go_wp2_with (at_builtin; refine wpList_append_br_str rfl _ _ rfl rfl Hb.out ⟨#[97, 109]⟩ rfl (by have := hx'.out; have := hsz.out; omega) hB ?_)
    intro v1 w1 hb1 hg1
    have Hb1 := Lib.hid hb1
    have Hg1 := Lib.hid (Hg0.out.trans (hg1))
    have hB1 : B ≤ w1.heap.size := by have h1 := Hg1.out.1.size; omega
    clear hb1 hg1
    go_wp2
    exact hQ _ _ _ _ _ _ _ (af_of rfl (by kernel_rfl)) (by have ht : xs ++ Ly.txt m (1046) = (xs ++ bts (⟨#[97, 109]⟩)) := (by show xs ++ (if 12 ≤ m.h then _ else _) = _; rw [if_neg Hz.out]); rw [ht]; exact Hb1.out) Hg1.out

set_option maxRecDepth 100000 in
set_option maxHeartbeats 4000000 in
theorem sw_257 {B p : Nat} {v : Value} {l Z : ByteArray} {off A D y mo d yd h mi s : Int} {v18 v20 v92 : Value} {xs : List UInt8} {a : Act} {w : World} {m : Ly.Mo} (Q : Exit → Act → World → Prop) (hm : m.Ok) (ha : Af v l p Z off A D y mo d yd h mi s v18 (.int .i64 (257)) v20 v92 a) (hb : BR B v xs w) (hx : xs.length ≤ 890000) (hB : B ≤ w.heap.size) (hd1 : y = (m.y : Int)) (hd2 : mo = (m.mo : Int)) (hd3 : d = (m.d : Int)) (hT : NameTab 5 Ly.monthNames B w)
    (hQ : ∀ v' a' w' u18 u19 u20 u92, Af v' l p Z off A D y mo d yd h mi s u18 u19 u20 u92 a' → BR B v' (xs ++ Ly.txt m (257)) w' → Gw v w v' w' → Q .normal a' w') : Code.wp Tryz.prog afSw Q a w := by
  obtain ⟨f, rfl⟩ := ha
  have Hb := Lib.hid hb
  have Hm := Lib.hid hm
  have hx' := Lib.hid hx
  clear hb hm hx
  conv => arg 2; whnf
  have hbit : bits BinOp.and IntKind.i64 257 65535 = 257 := by decide
  have HT := Lib.hid hT
  clear hT
  have HD1' := Lib.hid hd1
  have HD2' := Lib.hid hd2
  have HD3' := Lib.hid hd3
  clear hd1 hd2 hd3
  go_wp2_with fail
  go_at_call 164
  refine (monthString_any mo HD2'.out Hm.out.mo1 Hm.out.mo _ HT.out).mono ?_
  rintro r w1 ⟨S, rfl, hS, rfl⟩
  have hl1 := Ly.month_len (m.mo - 1)
  have hl2 := month_ge Hm.out.mo1 Hm.out.mo
  rw [← hS, bts_length] at hl1 hl2
  have HS := Lib.hid hS
  clear hS
  obtain ⟨z, hz⟩ : ∃ z : Int, z = (S.size : Int) := ⟨_, rfl⟩
  have hsz := Lib.hid hl1
  clear hl1 hl2 hz
  have Hg0 := Lib.hid (Gw.refl v w)
  go_wp2_with (at_builtin; refine wpList_append_br_str rfl _ _ rfl rfl Hb.out S rfl (by have := hx'.out; have := hsz.out; omega) hB ?_)
  intro v1 w1 hb1 hg1
  have Hb1 := Lib.hid hb1
  have Hg1 := Lib.hid (Hg0.out.trans (hg1))
  have hB1 : B ≤ w1.heap.size := by have h1 := Hg1.out.1.size; omega
  clear hb1 hg1
  go_wp2
  exact hQ _ _ _ _ _ _ _ (af_of rfl (by kernel_rfl)) (by have ht : xs ++ Ly.txt m (257) = (xs ++ bts S) := (by rw [HS.out]; rfl); rw [ht]; exact Hb1.out) Hg1.out

set_option maxRecDepth 100000 in
set_option maxHeartbeats 4000000 in
theorem sw_258 {B p : Nat} {v : Value} {l Z : ByteArray} {off A D y mo d yd h mi s : Int} {v18 v20 v92 : Value} {xs : List UInt8} {a : Act} {w : World} {m : Ly.Mo} (Q : Exit → Act → World → Prop) (hm : m.Ok) (ha : Af v l p Z off A D y mo d yd h mi s v18 (.int .i64 (258)) v20 v92 a) (hb : BR B v xs w) (hx : xs.length ≤ 890000) (hB : B ≤ w.heap.size) (hd1 : y = (m.y : Int)) (hd2 : mo = (m.mo : Int)) (hd3 : d = (m.d : Int)) (hT : NameTab 5 Ly.monthNames B w)
    (hQ : ∀ v' a' w' u18 u19 u20 u92, Af v' l p Z off A D y mo d yd h mi s u18 u19 u20 u92 a' → BR B v' (xs ++ Ly.txt m (258)) w' → Gw v w v' w' → Q .normal a' w') : Code.wp Tryz.prog afSw Q a w := by
  obtain ⟨f, rfl⟩ := ha
  have Hb := Lib.hid hb
  have Hm := Lib.hid hm
  have hx' := Lib.hid hx
  clear hb hm hx
  conv => arg 2; whnf
  have hbit : bits BinOp.and IntKind.i64 258 65535 = 258 := by decide
  have HT := Lib.hid hT
  clear hT
  have HD1' := Lib.hid hd1
  have HD2' := Lib.hid hd2
  have HD3' := Lib.hid hd3
  clear hd1 hd2 hd3
  go_wp2_with fail
  go_at_call 164
  refine (monthString_any mo HD2'.out Hm.out.mo1 Hm.out.mo _ HT.out).mono ?_
  rintro r w1 ⟨S, rfl, hS, rfl⟩
  have hl1 := Ly.month_len (m.mo - 1)
  have hl2 := month_ge Hm.out.mo1 Hm.out.mo
  rw [← hS, bts_length] at hl1 hl2
  have HS := Lib.hid hS
  clear hS
  obtain ⟨z, hz⟩ : ∃ z : Int, z = (S.size : Int) := ⟨_, rfl⟩
  have hz3 : (3 : Int) ≤ (S.size : Int) := by omega
  have hsz := Lib.hid (show (S.extract 0 3).size ≤ 9 by rw [ByteArray.size_extract]; omega)
  clear hl1 hl2 hz
  have Hg0 := Lib.hid (Gw.refl v w)
  go_wp2_with (at_builtin; refine wpList_append_br_str rfl _ _ rfl rfl Hb.out (S.extract 0 3) rfl (by have := hx'.out; have := hsz.out; omega) hB ?_)
  intro v1 w1 hb1 hg1
  have Hb1 := Lib.hid hb1
  have Hg1 := Lib.hid (Hg0.out.trans (hg1))
  have hB1 : B ≤ w1.heap.size := by have h1 := Hg1.out.1.size; omega
  clear hb1 hg1
  go_wp2
  exact hQ _ _ _ _ _ _ _ (af_of rfl (by kernel_rfl)) (by have ht : xs ++ Ly.txt m (258) = (xs ++ bts ((S.extract 0 3))) := (by rw [bts_extract, List.drop_zero, HS.out]; rfl); rw [ht]; exact Hb1.out) Hg1.out

set_option maxRecDepth 100000 in
set_option maxHeartbeats 4000000 in
theorem sw_261 {B p : Nat} {v : Value} {l Z : ByteArray} {off A D y mo d yd h mi s : Int} {v18 v20 v92 : Value} {xs : List UInt8} {a : Act} {w : World} {m : Ly.Mo} {n : Nat} (Q : Exit → Act → World → Prop) (hm : m.Ok) (ha : Af v l p Z off A D y mo d yd h mi s v18 (.int .i64 (261)) v20 v92 a) (hb : BR B v xs w) (hx : xs.length ≤ 890000) (hB : B ≤ w.heap.size) (hd : D = 106751990353932 + (n : Int)) (hn : n < 2000000) (hw : m.wd = (n + 3) % 7) (hT : NameTab 6 Ly.dayNames B w)
    (hQ : ∀ v' a' w' u18 u19 u20 u92, Af v' l p Z off A D y mo d yd h mi s u18 u19 u20 u92 a' → BR B v' (xs ++ Ly.txt m (261)) w' → Gw v w v' w' → Q .normal a' w') : Code.wp Tryz.prog afSw Q a w := by
  obtain ⟨f, rfl⟩ := ha
  have Hb := Lib.hid hb
  have Hm := Lib.hid hm
  have hx' := Lib.hid hx
  clear hb hm hx
  conv => arg 2; whnf
  have hbit : bits BinOp.and IntKind.i64 261 65535 = 261 := by decide
  have HT := Lib.hid hT
  clear hT
  have HN := Lib.hid hn
  have HD := Lib.hid hd
  have HW := Lib.hid hw
  clear hn hd hw
  go_wp2_with fail
  go_at_call 165
  refine (weekday_any n D HD.out HN.out _).mono ?_
  rintro r w1 ⟨k, rfl, hk, rfl⟩
  have HK := Lib.hid (show k = (m.wd : Int) by rw [hk, HW.out])
  clear hk
  go_wp2_with fail
  go_at_call 166
  refine (dayString_any k HK.out Hm.out.wd _ HT.out).mono ?_
  rintro r w1 ⟨S, rfl, hS, rfl⟩
  have hl1 := Ly.day_len m.wd
  have hl2 := day_ge Hm.out.wd
  rw [← hS, bts_length] at hl1 hl2
  have HS := Lib.hid hS
  clear hS
  obtain ⟨z, hz⟩ : ∃ z : Int, z = (S.size : Int) := ⟨_, rfl⟩
  have hsz := Lib.hid hl1
  clear hl1 hl2 hz
  have Hg0 := Lib.hid (Gw.refl v w)
  go_wp2_with (at_builtin; refine wpList_append_br_str rfl _ _ rfl rfl Hb.out S rfl (by have := hx'.out; have := hsz.out; omega) hB ?_)
  intro v1 w1 hb1 hg1
  have Hb1 := Lib.hid hb1
  have Hg1 := Lib.hid (Hg0.out.trans (hg1))
  have hB1 : B ≤ w1.heap.size := by have h1 := Hg1.out.1.size; omega
  clear hb1 hg1
  go_wp2
  exact hQ _ _ _ _ _ _ _ (af_of rfl (by kernel_rfl)) (by have ht : xs ++ Ly.txt m (261) = (xs ++ bts S) := (by rw [HS.out]; rfl); rw [ht]; exact Hb1.out) Hg1.out

set_option maxRecDepth 100000 in
set_option maxHeartbeats 4000000 in
theorem sw_262 {B p : Nat} {v : Value} {l Z : ByteArray} {off A D y mo d yd h mi s : Int} {v18 v20 v92 : Value} {xs : List UInt8} {a : Act} {w : World} {m : Ly.Mo} {n : Nat} (Q : Exit → Act → World → Prop) (hm : m.Ok) (ha : Af v l p Z off A D y mo d yd h mi s v18 (.int .i64 (262)) v20 v92 a) (hb : BR B v xs w) (hx : xs.length ≤ 890000) (hB : B ≤ w.heap.size) (hd : D = 106751990353932 + (n : Int)) (hn : n < 2000000) (hw : m.wd = (n + 3) % 7) (hT : NameTab 6 Ly.dayNames B w)
    (hQ : ∀ v' a' w' u18 u19 u20 u92, Af v' l p Z off A D y mo d yd h mi s u18 u19 u20 u92 a' → BR B v' (xs ++ Ly.txt m (262)) w' → Gw v w v' w' → Q .normal a' w') : Code.wp Tryz.prog afSw Q a w := by
  obtain ⟨f, rfl⟩ := ha
  have Hb := Lib.hid hb
  have Hm := Lib.hid hm
  have hx' := Lib.hid hx
  clear hb hm hx
  conv => arg 2; whnf
  have hbit : bits BinOp.and IntKind.i64 262 65535 = 262 := by decide
  have HT := Lib.hid hT
  clear hT
  have HN := Lib.hid hn
  have HD := Lib.hid hd
  have HW := Lib.hid hw
  clear hn hd hw
  go_wp2_with fail
  go_at_call 165
  refine (weekday_any n D HD.out HN.out _).mono ?_
  rintro r w1 ⟨k, rfl, hk, rfl⟩
  have HK := Lib.hid (show k = (m.wd : Int) by rw [hk, HW.out])
  clear hk
  go_wp2_with fail
  go_at_call 166
  refine (dayString_any k HK.out Hm.out.wd _ HT.out).mono ?_
  rintro r w1 ⟨S, rfl, hS, rfl⟩
  have hl1 := Ly.day_len m.wd
  have hl2 := day_ge Hm.out.wd
  rw [← hS, bts_length] at hl1 hl2
  have HS := Lib.hid hS
  clear hS
  obtain ⟨z, hz⟩ : ∃ z : Int, z = (S.size : Int) := ⟨_, rfl⟩
  have hz3 : (3 : Int) ≤ (S.size : Int) := by omega
  have hsz := Lib.hid (show (S.extract 0 3).size ≤ 9 by rw [ByteArray.size_extract]; omega)
  clear hl1 hl2 hz
  have Hg0 := Lib.hid (Gw.refl v w)
  go_wp2_with (at_builtin; refine wpList_append_br_str rfl _ _ rfl rfl Hb.out (S.extract 0 3) rfl (by have := hx'.out; have := hsz.out; omega) hB ?_)
  intro v1 w1 hb1 hg1
  have Hb1 := Lib.hid hb1
  have Hg1 := Lib.hid (Hg0.out.trans (hg1))
  have hB1 : B ≤ w1.heap.size := by have h1 := Hg1.out.1.size; omega
  clear hb1 hg1
  go_wp2
  exact hQ _ _ _ _ _ _ _ (af_of rfl (by kernel_rfl)) (by have ht : xs ++ Ly.txt m (262) = (xs ++ bts ((S.extract 0 3))) := (by rw [bts_extract, List.drop_zero, HS.out]; rfl); rw [ht]; exact Hb1.out) Hg1.out

set_option maxRecDepth 100000 in
set_option maxHeartbeats 4000000 in
theorem sw_frac34 {B p : Nat} {v : Value} {l Z : ByteArray} {off A D y mo d yd h mi s : Int} {v18 v20 v92 : Value} {xs : List UInt8} {a : Act} {w : World} {m : Ly.Mo} {std q : Int} {n : Nat} {dot : UInt8} {te na : Int} (Q : Exit → Act → World → Prop) (hm : m.Ok) (ha : Af v l p Z off A D y mo d yd h mi s v18 (.int .i64 std) v20 v92 a) (hb : BR B v xs w) (hx : xs.length ≤ 890000) (hB : B ≤ w.heap.size) (hF : Fr std 34 q n dot) (hna : na = (m.na : Int))
    (t0 : w.cell? ⟨p, 0, none⟩ = some (.int .i64 te)) (t1 : w.cell? ⟨p, 1, none⟩ = some (.int .i32 na)) (t2 : w.cell? ⟨p, 2, none⟩ = some (.string Z)) (t3 : w.cell? ⟨p, 3, none⟩ = some (.int .i64 off))
    (hQ : ∀ v' a' w' u18 u19 u20 u92, Af v' l p Z off A D y mo d yd h mi s u18 u19 u20 u92 a' → BR B v' (xs ++ Ly.txt m std) w' → Gw v w v' w' → Q .normal a' w') : Code.wp Tryz.prog afSw Q a w := by
  obtain ⟨f, rfl⟩ := ha
  have Hb := Lib.hid hb
  have Hm := Lib.hid hm
  have hx' := Lib.hid hx
  have HF := Lib.hid hF
  have HN := Lib.hid hna
  have hbit := (fbits_bit hF)
  have na0 : 0 ≤ na := by omega
  have na1 : na < 1000000000 := by have := hm.na; omega
  clear hb hm hx hF hna
  conv => arg 2; whnf
  go_wp2_with (go_at_call 161; refine (nano_any te na off Z na0 na1 _).mono ?_; rintro r w1 ⟨rfl, hw1⟩)
  have Hw1 := Lib.hid hw1
  have hB1 : B ≤ w1.heap.size := by have := hw1.size; omega
  clear hw1
  go_wp2_with (go_at_call 160; refine (nano34 HF.out m.na na HN.out Hm.out.na _ (Hb.out.below Hw1.out) hx'.out hB1).mono ?_; rintro r w2 ⟨v2, rfl, hb2, hg2⟩)
  have Hb2 := Lib.hid hb2
  have Hg2 := Lib.hid ((Gw.of_below Hw1.out).trans hg2)
  clear hb2 hg2
  go_wp2
  exact hQ _ _ _ _ _ _ _ (af_of rfl (by kernel_rfl)) (by rw [HF.out.txt m]; exact Hb2.out) Hg2.out

set_option maxRecDepth 100000 in
set_option maxHeartbeats 4000000 in
theorem sw_frac35 {B p : Nat} {v : Value} {l Z : ByteArray} {off A D y mo d yd h mi s : Int} {v18 v20 v92 : Value} {xs : List UInt8} {a : Act} {w : World} {m : Ly.Mo} {std q : Int} {n : Nat} {dot : UInt8} {te na : Int} (Q : Exit → Act → World → Prop) (hm : m.Ok) (ha : Af v l p Z off A D y mo d yd h mi s v18 (.int .i64 std) v20 v92 a) (hb : BR B v xs w) (hx : xs.length ≤ 890000) (hB : B ≤ w.heap.size) (hF : Fr std 35 q n dot) (hna : na = (m.na : Int))
    (t0 : w.cell? ⟨p, 0, none⟩ = some (.int .i64 te)) (t1 : w.cell? ⟨p, 1, none⟩ = some (.int .i32 na)) (t2 : w.cell? ⟨p, 2, none⟩ = some (.string Z)) (t3 : w.cell? ⟨p, 3, none⟩ = some (.int .i64 off))
    (hQ : ∀ v' a' w' u18 u19 u20 u92, Af v' l p Z off A D y mo d yd h mi s u18 u19 u20 u92 a' → BR B v' (xs ++ Ly.txt m std) w' → Gw v w v' w' → Q .normal a' w') : Code.wp Tryz.prog afSw Q a w := by
  obtain ⟨f, rfl⟩ := ha
  have Hb := Lib.hid hb
  have Hm := Lib.hid hm
  have hx' := Lib.hid hx
  have HF := Lib.hid hF
  have HN := Lib.hid hna
  have hbit := (fbits_bit hF)
  have na0 : 0 ≤ na := by omega
  have na1 : na < 1000000000 := by have := hm.na; omega
  clear hb hm hx hF hna
  conv => arg 2; whnf
  go_wp2_with (go_at_call 161; refine (nano_any te na off Z na0 na1 _).mono ?_; rintro r w1 ⟨rfl, hw1⟩)
  have Hw1 := Lib.hid hw1
  have hB1 : B ≤ w1.heap.size := by have := hw1.size; omega
  clear hw1
  go_wp2_with (go_at_call 160; refine (nano35 HF.out m.na na HN.out Hm.out.na _ (Hb.out.below Hw1.out) hx'.out hB1).mono ?_; rintro r w2 ⟨v2, rfl, hb2, hg2⟩)
  have Hb2 := Lib.hid hb2
  have Hg2 := Lib.hid ((Gw.of_below Hw1.out).trans hg2)
  clear hb2 hg2
  go_wp2
  exact hQ _ _ _ _ _ _ _ (af_of rfl (by kernel_rfl)) (by rw [HF.out.txt m]; exact Hb2.out) Hg2.out

end Go.Proofs.YtchmhdmapknmfaaGreatDoor

/-
  appendFormat: parts of a layout (printed by gen_Ma.py): 24, 25.
-/
namespace Go.Proofs.YtchmhdmapknmfaaGreatDoor
open Go.RowKit

set_option maxRecDepth 100000 in
set_option maxHeartbeats 4000000 in
theorem sw_24_zero {B p : Nat} {v : Value} {l Z : ByteArray} {off A D y mo d yd h mi s : Int} {v18 v20 v92 : Value} {xs : List UInt8} {a : Act} {w : World} {m : Ly.Mo} (Q : Exit → Act → World → Prop) (hm : m.Ok) (ha : Af v l p Z off A D y mo d yd h mi s v18 (.int .i64 (24)) v20 v92 a) (hb : BR B v xs w) (hx : xs.length ≤ 890000) (hB : B ≤ w.heap.size) (ho : off = m.off) (hc : m.off = 0)
    (hQ : ∀ v' a' w' u18 u19 u20 u92, Af v' l p Z off A D y mo d yd h mi s u18 u19 u20 u92 a' → BR B v' (xs ++ Ly.txt m (24)) w' → Gw v w v' w' → Q .normal a' w') : Code.wp Tryz.prog afSw Q a w := by
  obtain ⟨f, rfl⟩ := ha
  have Hb := Lib.hid hb
  have Hm := Lib.hid hm
  have hx' := Lib.hid hx
  clear hb hm hx
  conv => arg 2; whnf
  have hbit : bits BinOp.and IntKind.i64 24 65535 = 24 := by decide
  have f0 : (off == 0) = true := by rw [beq_iff_eq]; omega
  have Hc := Lib.hid hc
  clear ho hc
  have Hg0 := Lib.hid (Gw.refl v w)
  go_wp2_with (at_builtin; refine wpList_append_br rfl _ _ rfl rfl (Hb.out.alloc _) [90] ⟨w.heap.size, 0, none⟩ 1 1 rfl rfl cells_one (by have := hx'.out; simp only [List.length_cons, List.length_nil]; omega) (by simp only [World.alloc, Array.size_push]; omega) ?_)
  intro v1 w1 hb1 hg1
  have Hb1 := Lib.hid hb1
  have Hg1 := Lib.hid (Hg0.out.trans (((Gw.refl _ _).alloc _).trans hg1))
  have hB1 : B ≤ w1.heap.size := by have h1 := Hg1.out.1.size; omega
  clear hb1 hg1
  go_wp2
  exact hQ _ _ _ _ _ _ _ (af_of rfl (by kernel_rfl)) (by have ht : xs ++ Ly.txt m (24) = (xs ++ [90]) := (by show xs ++ (if m.off = 0 then [90] else _) = _; rw [if_pos Hc.out]); rw [ht]; exact Hb1.out) Hg1.out

set_option maxRecDepth 100000 in
set_option maxHeartbeats 4000000 in
theorem sw_24_neg {B p : Nat} {v : Value} {l Z : ByteArray} {off A D y mo d yd h mi s : Int} {v18 v20 v92 : Value} {xs : List UInt8} {a : Act} {w : World} {m : Ly.Mo} (Q : Exit → Act → World → Prop) (hm : m.Ok) (ha : Af v l p Z off A D y mo d yd h mi s v18 (.int .i64 (24)) v20 v92 a) (hb : BR B v xs w) (hx : xs.length ≤ 890000) (hB : B ≤ w.heap.size) (ho : off = m.off) (hc : m.off < 0)
    (hQ : ∀ v' a' w' u18 u19 u20 u92, Af v' l p Z off A D y mo d yd h mi s u18 u19 u20 u92 a' → BR B v' (xs ++ Ly.txt m (24)) w' → Gw v w v' w' → Q .normal a' w') : Code.wp Tryz.prog afSw Q a w := by
  obtain ⟨f, rfl⟩ := ha
  have Hb := Lib.hid hb
  have Hm := Lib.hid hm
  have hx' := Lib.hid hx
  clear hb hm hx
  conv => arg 2; whnf
  have hbit : bits BinOp.and IntKind.i64 24 65535 = 24 := by decide
  have f0 : (off == 0) = false := by rw [beq_eq_false_iff_ne]; omega
  have HO := Lib.hid ho
  have H60 := Lib.hid Hm.out.off60
  obtain ⟨zp, hzp⟩ : ∃ zp : Int, zp = ((m.off.natAbs / 60 : Nat) : Int) := ⟨_, rfl⟩
  have zp0 : 1 ≤ zp := by have := Hm.out.off60; omega
  have zp1 : zp ≤ 1440 := by have := Hm.out.off1; have := Hm.out.off; omega
  have ho0 : off < 0 := by omega
  have hq1 : off.tdiv 60 = -zp := by rw [tdiv_below (by omega)]; have := Hm.out.off60; omega
  have o1 : -86400 < off := by have := Hm.out.off1; omega
  have HX3 := Lib.hid (show -off.tmod 60 = ((m.off.natAbs % 60 : Nat) : Int) by rw [Int.tmod_eq_zero_of_dvd (Int.dvd_of_emod_eq_zero (show off % 60 = 0 by rw [ho]; exact Hm.out.off60))]; have := Hm.out.off60; omega)
  have HX1 := Lib.hid (show zp / 60 = ((m.off.natAbs / 3600 : Nat) : Int) by omega)
  have HX2 := Lib.hid (show zp % 60 = ((m.off.natAbs / 60 % 60 : Nat) : Int) by omega)
  have hn1 := Lib.hid (show m.off.natAbs / 3600 < 100 by have := Hm.out.off1; have := Hm.out.off; omega)
  have hn2 := Lib.hid (show m.off.natAbs / 60 % 60 < 100 by omega)
  have hn3 := Lib.hid (show m.off.natAbs % 60 < 100 by omega)
  have Hc := Lib.hid hc
  clear ho hc hzp
  have Hg0 := Lib.hid (Gw.refl v w)
  go_wp2_with (at_builtin; refine wpList_append_br rfl _ _ rfl rfl (Hb.out.alloc _) [45] ⟨w.heap.size, 0, none⟩ 1 1 rfl rfl cells_one (by have := hx'.out; simp only [List.length_cons, List.length_nil]; omega) (by simp only [World.alloc, Array.size_push]; omega) ?_)
  intro v1 w1 hb1 hg1
  have Hb1 := Lib.hid hb1
  have Hg1 := Lib.hid (Hg0.out.trans (((Gw.refl _ _).alloc _).trans hg1))
  have hB1 : B ≤ w1.heap.size := by have h1 := Hg1.out.1.size; omega
  clear hb1 hg1
  go_wp2_with fail
  go_at_call 157
  refine (aint 2 (m.off.natAbs / 3600) (zp / 60) HX1.out _ Hb1.out (.inl ⟨rfl, hn1.out⟩) (by have := hx'.out; simp only [List.length_append, List.length_cons, List.length_nil]; omega) hB1).mono ?_
  rintro r w2 ⟨v2, rfl, hb2, hg2⟩
  have Hb2 := Lib.hid (show BR B v2 ((xs ++ [45]) ++ Ly.pad 2 (m.off.natAbs / 3600)) w2 by first | exact hb2 | (rw [List.append_assoc]; exact hb2) | simpa using hb2)
  have Hg2 := Lib.hid (Hg1.out.trans (hg2))
  have hB2 : B ≤ w2.heap.size := by have h1 := Hg2.out.1.size; omega
  clear hb2 hg2
  have HL2 := Lib.hid (Ly.pad_length (k := 2) (a := m.off.natAbs / 3600) (by decide) hn1.out)
  go_wp2_with fail
  go_at_call 157
  refine (aint 2 (m.off.natAbs / 60 % 60) (zp % 60) HX2.out _ Hb2.out (.inl ⟨rfl, hn2.out⟩) (by have := hx'.out; have := HL2.out; simp only [List.length_append, List.length_cons, List.length_nil]; omega) hB2).mono ?_
  rintro r w3 ⟨v3, rfl, hb3, hg3⟩
  have Hb3 := Lib.hid (show BR B v3 (((xs ++ [45]) ++ Ly.pad 2 (m.off.natAbs / 3600)) ++ Ly.pad 2 (m.off.natAbs / 60 % 60)) w3 by first | exact hb3 | (rw [List.append_assoc]; exact hb3) | simpa using hb3)
  have Hg3 := Lib.hid (Hg2.out.trans (hg3))
  have hB3 : B ≤ w3.heap.size := by have h1 := Hg3.out.1.size; omega
  clear hb3 hg3
  have HL3 := Lib.hid (Ly.pad_length (k := 2) (a := m.off.natAbs / 60 % 60) (by decide) hn2.out)
  go_wp2
  exact hQ _ _ _ _ _ _ _ (af_of rfl (by kernel_rfl)) (by have ht : xs ++ Ly.txt m (24) = (((xs ++ [45]) ++ Ly.pad 2 (m.off.natAbs / 3600)) ++ Ly.pad 2 (m.off.natAbs / 60 % 60)) := (by show xs ++ (if m.off = 0 then [90] else Ly.zn m.off false true false) = _; rw [if_neg (by have := Hc.out; omega)]; unfold Ly.zn; rw [if_pos Hc.out] <;> simp); rw [ht]; exact Hb3.out) Hg3.out

set_option maxRecDepth 100000 in
set_option maxHeartbeats 4000000 in
theorem sw_24_pos {B p : Nat} {v : Value} {l Z : ByteArray} {off A D y mo d yd h mi s : Int} {v18 v20 v92 : Value} {xs : List UInt8} {a : Act} {w : World} {m : Ly.Mo} (Q : Exit → Act → World → Prop) (hm : m.Ok) (ha : Af v l p Z off A D y mo d yd h mi s v18 (.int .i64 (24)) v20 v92 a) (hb : BR B v xs w) (hx : xs.length ≤ 890000) (hB : B ≤ w.heap.size) (ho : off = m.off) (hc : 0 < m.off)
    (hQ : ∀ v' a' w' u18 u19 u20 u92, Af v' l p Z off A D y mo d yd h mi s u18 u19 u20 u92 a' → BR B v' (xs ++ Ly.txt m (24)) w' → Gw v w v' w' → Q .normal a' w') : Code.wp Tryz.prog afSw Q a w := by
  obtain ⟨f, rfl⟩ := ha
  have Hb := Lib.hid hb
  have Hm := Lib.hid hm
  have hx' := Lib.hid hx
  clear hb hm hx
  conv => arg 2; whnf
  have hbit : bits BinOp.and IntKind.i64 24 65535 = 24 := by decide
  have f0 : (off == 0) = false := by rw [beq_eq_false_iff_ne]; omega
  have HO := Lib.hid ho
  have H60 := Lib.hid Hm.out.off60
  obtain ⟨zp, hzp⟩ : ∃ zp : Int, zp = ((m.off.natAbs / 60 : Nat) : Int) := ⟨_, rfl⟩
  have zp0 : 0 ≤ zp := by have := Hm.out.off60; omega
  have zp1 : zp ≤ 1440 := by have := Hm.out.off1; have := Hm.out.off; omega
  have ho0 : 0 ≤ off := by omega
  have hq1 : off.tdiv 60 = zp := by rw [Int.tdiv_eq_ediv_of_nonneg (by omega)]; omega
  have hq2 : off / 60 = zp := by omega
  have o1 : off < 86400 := by have := Hm.out.off; omega
  have HX3 := Lib.hid (show off % 60 = ((m.off.natAbs % 60 : Nat) : Int) by omega)
  have HX1 := Lib.hid (show zp / 60 = ((m.off.natAbs / 3600 : Nat) : Int) by omega)
  have HX2 := Lib.hid (show zp % 60 = ((m.off.natAbs / 60 % 60 : Nat) : Int) by omega)
  have hn1 := Lib.hid (show m.off.natAbs / 3600 < 100 by have := Hm.out.off1; have := Hm.out.off; omega)
  have hn2 := Lib.hid (show m.off.natAbs / 60 % 60 < 100 by omega)
  have hn3 := Lib.hid (show m.off.natAbs % 60 < 100 by omega)
  have Hc := Lib.hid hc
  clear ho hc hzp
  have Hg0 := Lib.hid (Gw.refl v w)
  go_wp2_with (at_builtin; refine wpList_append_br rfl _ _ rfl rfl (Hb.out.alloc _) [43] ⟨w.heap.size, 0, none⟩ 1 1 rfl rfl cells_one (by have := hx'.out; simp only [List.length_cons, List.length_nil]; omega) (by simp only [World.alloc, Array.size_push]; omega) ?_)
  intro v1 w1 hb1 hg1
  have Hb1 := Lib.hid hb1
  have Hg1 := Lib.hid (Hg0.out.trans (((Gw.refl _ _).alloc _).trans hg1))
  have hB1 : B ≤ w1.heap.size := by have h1 := Hg1.out.1.size; omega
  clear hb1 hg1
  go_wp2_with fail
  go_at_call 157
  refine (aint 2 (m.off.natAbs / 3600) (zp / 60) HX1.out _ Hb1.out (.inl ⟨rfl, hn1.out⟩) (by have := hx'.out; simp only [List.length_append, List.length_cons, List.length_nil]; omega) hB1).mono ?_
  rintro r w2 ⟨v2, rfl, hb2, hg2⟩
  have Hb2 := Lib.hid (show BR B v2 ((xs ++ [43]) ++ Ly.pad 2 (m.off.natAbs / 3600)) w2 by first | exact hb2 | (rw [List.append_assoc]; exact hb2) | simpa using hb2)
  have Hg2 := Lib.hid (Hg1.out.trans (hg2))
  have hB2 : B ≤ w2.heap.size := by have h1 := Hg2.out.1.size; omega
  clear hb2 hg2
  have HL2 := Lib.hid (Ly.pad_length (k := 2) (a := m.off.natAbs / 3600) (by decide) hn1.out)
  go_wp2_with fail
  go_at_call 157
  refine (aint 2 (m.off.natAbs / 60 % 60) (zp % 60) HX2.out _ Hb2.out (.inl ⟨rfl, hn2.out⟩) (by have := hx'.out; have := HL2.out; simp only [List.length_append, List.length_cons, List.length_nil]; omega) hB2).mono ?_
  rintro r w3 ⟨v3, rfl, hb3, hg3⟩
  have Hb3 := Lib.hid (show BR B v3 (((xs ++ [43]) ++ Ly.pad 2 (m.off.natAbs / 3600)) ++ Ly.pad 2 (m.off.natAbs / 60 % 60)) w3 by first | exact hb3 | (rw [List.append_assoc]; exact hb3) | simpa using hb3)
  have Hg3 := Lib.hid (Hg2.out.trans (hg3))
  have hB3 : B ≤ w3.heap.size := by have h1 := Hg3.out.1.size; omega
  clear hb3 hg3
  have HL3 := Lib.hid (Ly.pad_length (k := 2) (a := m.off.natAbs / 60 % 60) (by decide) hn2.out)
  go_wp2
  exact hQ _ _ _ _ _ _ _ (af_of rfl (by kernel_rfl)) (by have ht : xs ++ Ly.txt m (24) = (((xs ++ [43]) ++ Ly.pad 2 (m.off.natAbs / 3600)) ++ Ly.pad 2 (m.off.natAbs / 60 % 60)) := (by show xs ++ (if m.off = 0 then [90] else Ly.zn m.off false true false) = _; rw [if_neg (by have := Hc.out; omega)]; unfold Ly.zn; rw [if_neg (by have := Hc.out; omega)] <;> simp); rw [ht]; exact Hb3.out) Hg3.out

set_option maxRecDepth 100000 in
set_option maxHeartbeats 4000000 in
theorem sw_25_zero {B p : Nat} {v : Value} {l Z : ByteArray} {off A D y mo d yd h mi s : Int} {v18 v20 v92 : Value} {xs : List UInt8} {a : Act} {w : World} {m : Ly.Mo} (Q : Exit → Act → World → Prop) (hm : m.Ok) (ha : Af v l p Z off A D y mo d yd h mi s v18 (.int .i64 (25)) v20 v92 a) (hb : BR B v xs w) (hx : xs.length ≤ 890000) (hB : B ≤ w.heap.size) (ho : off = m.off) (hc : m.off = 0)
    (hQ : ∀ v' a' w' u18 u19 u20 u92, Af v' l p Z off A D y mo d yd h mi s u18 u19 u20 u92 a' → BR B v' (xs ++ Ly.txt m (25)) w' → Gw v w v' w' → Q .normal a' w') : Code.wp Tryz.prog afSw Q a w := by
  obtain ⟨f, rfl⟩ := ha
  have Hb := Lib.hid hb
  have Hm := Lib.hid hm
  have hx' := Lib.hid hx
  clear hb hm hx
  conv => arg 2; whnf
  have hbit : bits BinOp.and IntKind.i64 25 65535 = 25 := by decide
  have f0 : (off == 0) = true := by rw [beq_iff_eq]; omega
  have Hc := Lib.hid hc
  clear ho hc
  have Hg0 := Lib.hid (Gw.refl v w)
  go_wp2_with (at_builtin; refine wpList_append_br rfl _ _ rfl rfl (Hb.out.alloc _) [90] ⟨w.heap.size, 0, none⟩ 1 1 rfl rfl cells_one (by have := hx'.out; simp only [List.length_cons, List.length_nil]; omega) (by simp only [World.alloc, Array.size_push]; omega) ?_)
  intro v1 w1 hb1 hg1
  have Hb1 := Lib.hid hb1
  have Hg1 := Lib.hid (Hg0.out.trans (((Gw.refl _ _).alloc _).trans hg1))
  have hB1 : B ≤ w1.heap.size := by have h1 := Hg1.out.1.size; omega
  clear hb1 hg1
  go_wp2
  exact hQ _ _ _ _ _ _ _ (af_of rfl (by kernel_rfl)) (by have ht : xs ++ Ly.txt m (25) = (xs ++ [90]) := (by show xs ++ (if m.off = 0 then [90] else _) = _; rw [if_pos Hc.out]); rw [ht]; exact Hb1.out) Hg1.out

set_option maxRecDepth 100000 in
set_option maxHeartbeats 4000000 in
theorem sw_25_neg {B p : Nat} {v : Value} {l Z : ByteArray} {off A D y mo d yd h mi s : Int} {v18 v20 v92 : Value} {xs : List UInt8} {a : Act} {w : World} {m : Ly.Mo} (Q : Exit → Act → World → Prop) (hm : m.Ok) (ha : Af v l p Z off A D y mo d yd h mi s v18 (.int .i64 (25)) v20 v92 a) (hb : BR B v xs w) (hx : xs.length ≤ 890000) (hB : B ≤ w.heap.size) (ho : off = m.off) (hc : m.off < 0)
    (hQ : ∀ v' a' w' u18 u19 u20 u92, Af v' l p Z off A D y mo d yd h mi s u18 u19 u20 u92 a' → BR B v' (xs ++ Ly.txt m (25)) w' → Gw v w v' w' → Q .normal a' w') : Code.wp Tryz.prog afSw Q a w := by
  obtain ⟨f, rfl⟩ := ha
  have Hb := Lib.hid hb
  have Hm := Lib.hid hm
  have hx' := Lib.hid hx
  clear hb hm hx
  conv => arg 2; whnf
  have hbit : bits BinOp.and IntKind.i64 25 65535 = 25 := by decide
  have f0 : (off == 0) = false := by rw [beq_eq_false_iff_ne]; omega
  have HO := Lib.hid ho
  have H60 := Lib.hid Hm.out.off60
  obtain ⟨zp, hzp⟩ : ∃ zp : Int, zp = ((m.off.natAbs / 60 : Nat) : Int) := ⟨_, rfl⟩
  have zp0 : 1 ≤ zp := by have := Hm.out.off60; omega
  have zp1 : zp ≤ 1440 := by have := Hm.out.off1; have := Hm.out.off; omega
  have ho0 : off < 0 := by omega
  have hq1 : off.tdiv 60 = -zp := by rw [tdiv_below (by omega)]; have := Hm.out.off60; omega
  have o1 : -86400 < off := by have := Hm.out.off1; omega
  have HX3 := Lib.hid (show -off.tmod 60 = ((m.off.natAbs % 60 : Nat) : Int) by rw [Int.tmod_eq_zero_of_dvd (Int.dvd_of_emod_eq_zero (show off % 60 = 0 by rw [ho]; exact Hm.out.off60))]; have := Hm.out.off60; omega)
  have HX1 := Lib.hid (show zp / 60 = ((m.off.natAbs / 3600 : Nat) : Int) by omega)
  have HX2 := Lib.hid (show zp % 60 = ((m.off.natAbs / 60 % 60 : Nat) : Int) by omega)
  have hn1 := Lib.hid (show m.off.natAbs / 3600 < 100 by have := Hm.out.off1; have := Hm.out.off; omega)
  have hn2 := Lib.hid (show m.off.natAbs / 60 % 60 < 100 by omega)
  have hn3 := Lib.hid (show m.off.natAbs % 60 < 100 by omega)
  have Hc := Lib.hid hc
  clear ho hc hzp
  have Hg0 := Lib.hid (Gw.refl v w)
  go_wp2_with (at_builtin; refine wpList_append_br rfl _ _ rfl rfl (Hb.out.alloc _) [45] ⟨w.heap.size, 0, none⟩ 1 1 rfl rfl cells_one (by have := hx'.out; simp only [List.length_cons, List.length_nil]; omega) (by simp only [World.alloc, Array.size_push]; omega) ?_)
  intro v1 w1 hb1 hg1
  have Hb1 := Lib.hid hb1
  have Hg1 := Lib.hid (Hg0.out.trans (((Gw.refl _ _).alloc _).trans hg1))
  have hB1 : B ≤ w1.heap.size := by have h1 := Hg1.out.1.size; omega
  clear hb1 hg1
  go_wp2_with fail
  go_at_call 157
  refine (aint 2 (m.off.natAbs / 3600) (zp / 60) HX1.out _ Hb1.out (.inl ⟨rfl, hn1.out⟩) (by have := hx'.out; simp only [List.length_append, List.length_cons, List.length_nil]; omega) hB1).mono ?_
  rintro r w2 ⟨v2, rfl, hb2, hg2⟩
  have Hb2 := Lib.hid (show BR B v2 ((xs ++ [45]) ++ Ly.pad 2 (m.off.natAbs / 3600)) w2 by first | exact hb2 | (rw [List.append_assoc]; exact hb2) | simpa using hb2)
  have Hg2 := Lib.hid (Hg1.out.trans (hg2))
  have hB2 : B ≤ w2.heap.size := by have h1 := Hg2.out.1.size; omega
  clear hb2 hg2
  have HL2 := Lib.hid (Ly.pad_length (k := 2) (a := m.off.natAbs / 3600) (by decide) hn1.out)
  go_wp2_with fail
  go_at_call 157
  refine (aint 2 (m.off.natAbs / 60 % 60) (zp % 60) HX2.out _ Hb2.out (.inl ⟨rfl, hn2.out⟩) (by have := hx'.out; have := HL2.out; simp only [List.length_append, List.length_cons, List.length_nil]; omega) hB2).mono ?_
  rintro r w3 ⟨v3, rfl, hb3, hg3⟩
  have Hb3 := Lib.hid (show BR B v3 (((xs ++ [45]) ++ Ly.pad 2 (m.off.natAbs / 3600)) ++ Ly.pad 2 (m.off.natAbs / 60 % 60)) w3 by first | exact hb3 | (rw [List.append_assoc]; exact hb3) | simpa using hb3)
  have Hg3 := Lib.hid (Hg2.out.trans (hg3))
  have hB3 : B ≤ w3.heap.size := by have h1 := Hg3.out.1.size; omega
  clear hb3 hg3
  have HL3 := Lib.hid (Ly.pad_length (k := 2) (a := m.off.natAbs / 60 % 60) (by decide) hn2.out)
  go_wp2_with fail
  go_at_call 157
  refine (aint 2 (m.off.natAbs % 60) (-off.tmod 60) HX3.out _ Hb3.out (.inl ⟨rfl, hn3.out⟩) (by have := hx'.out; have := HL2.out; have := HL3.out; simp only [List.length_append, List.length_cons, List.length_nil]; omega) hB3).mono ?_
  rintro r w4 ⟨v4, rfl, hb4, hg4⟩
  have Hb4 := Lib.hid (show BR B v4 ((((xs ++ [45]) ++ Ly.pad 2 (m.off.natAbs / 3600)) ++ Ly.pad 2 (m.off.natAbs / 60 % 60)) ++ Ly.pad 2 (m.off.natAbs % 60)) w4 by first | exact hb4 | (rw [List.append_assoc]; exact hb4) | simpa using hb4)
  have Hg4 := Lib.hid (Hg3.out.trans (hg4))
  have hB4 : B ≤ w4.heap.size := by have h1 := Hg4.out.1.size; omega
  clear hb4 hg4
  have HL4 := Lib.hid (Ly.pad_length (k := 2) (a := m.off.natAbs % 60) (by decide) hn3.out)
  go_wp2
  exact hQ _ _ _ _ _ _ _ (af_of rfl (by kernel_rfl)) (by have ht : xs ++ Ly.txt m (25) = ((((xs ++ [45]) ++ Ly.pad 2 (m.off.natAbs / 3600)) ++ Ly.pad 2 (m.off.natAbs / 60 % 60)) ++ Ly.pad 2 (m.off.natAbs % 60)) := (by show xs ++ (if m.off = 0 then [90] else Ly.zn m.off false true true) = _; rw [if_neg (by have := Hc.out; omega)]; unfold Ly.zn; rw [if_pos Hc.out] <;> simp); rw [ht]; exact Hb4.out) Hg4.out

set_option maxRecDepth 100000 in
set_option maxHeartbeats 4000000 in
theorem sw_25_pos {B p : Nat} {v : Value} {l Z : ByteArray} {off A D y mo d yd h mi s : Int} {v18 v20 v92 : Value} {xs : List UInt8} {a : Act} {w : World} {m : Ly.Mo} (Q : Exit → Act → World → Prop) (hm : m.Ok) (ha : Af v l p Z off A D y mo d yd h mi s v18 (.int .i64 (25)) v20 v92 a) (hb : BR B v xs w) (hx : xs.length ≤ 890000) (hB : B ≤ w.heap.size) (ho : off = m.off) (hc : 0 < m.off)
    (hQ : ∀ v' a' w' u18 u19 u20 u92, Af v' l p Z off A D y mo d yd h mi s u18 u19 u20 u92 a' → BR B v' (xs ++ Ly.txt m (25)) w' → Gw v w v' w' → Q .normal a' w') : Code.wp Tryz.prog afSw Q a w := by
  obtain ⟨f, rfl⟩ := ha
  have Hb := Lib.hid hb
  have Hm := Lib.hid hm
  have hx' := Lib.hid hx
  clear hb hm hx
  conv => arg 2; whnf
  have hbit : bits BinOp.and IntKind.i64 25 65535 = 25 := by decide
  have f0 : (off == 0) = false := by rw [beq_eq_false_iff_ne]; omega
  have HO := Lib.hid ho
  have H60 := Lib.hid Hm.out.off60
  obtain ⟨zp, hzp⟩ : ∃ zp : Int, zp = ((m.off.natAbs / 60 : Nat) : Int) := ⟨_, rfl⟩
  have zp0 : 0 ≤ zp := by have := Hm.out.off60; omega
  have zp1 : zp ≤ 1440 := by have := Hm.out.off1; have := Hm.out.off; omega
  have ho0 : 0 ≤ off := by omega
  have hq1 : off.tdiv 60 = zp := by rw [Int.tdiv_eq_ediv_of_nonneg (by omega)]; omega
  have hq2 : off / 60 = zp := by omega
  have o1 : off < 86400 := by have := Hm.out.off; omega
  have HX3 := Lib.hid (show off % 60 = ((m.off.natAbs % 60 : Nat) : Int) by omega)
  have HX1 := Lib.hid (show zp / 60 = ((m.off.natAbs / 3600 : Nat) : Int) by omega)
  have HX2 := Lib.hid (show zp % 60 = ((m.off.natAbs / 60 % 60 : Nat) : Int) by omega)
  have hn1 := Lib.hid (show m.off.natAbs / 3600 < 100 by have := Hm.out.off1; have := Hm.out.off; omega)
  have hn2 := Lib.hid (show m.off.natAbs / 60 % 60 < 100 by omega)
  have hn3 := Lib.hid (show m.off.natAbs % 60 < 100 by omega)
  have Hc := Lib.hid hc
  clear ho hc hzp
  have Hg0 := Lib.hid (Gw.refl v w)
  go_wp2_with (at_builtin; refine wpList_append_br rfl _ _ rfl rfl (Hb.out.alloc _) [43] ⟨w.heap.size, 0, none⟩ 1 1 rfl rfl cells_one (by have := hx'.out; simp only [List.length_cons, List.length_nil]; omega) (by simp only [World.alloc, Array.size_push]; omega) ?_)
  intro v1 w1 hb1 hg1
  have Hb1 := Lib.hid hb1
  have Hg1 := Lib.hid (Hg0.out.trans (((Gw.refl _ _).alloc _).trans hg1))
  have hB1 : B ≤ w1.heap.size := by have h1 := Hg1.out.1.size; omega
  clear hb1 hg1
  go_wp2_with fail
  go_at_call 157
  refine (aint 2 (m.off.natAbs / 3600) (zp / 60) HX1.out _ Hb1.out (.inl ⟨rfl, hn1.out⟩) (by have := hx'.out; simp only [List.length_append, List.length_cons, List.length_nil]; omega) hB1).mono ?_
  rintro r w2 ⟨v2, rfl, hb2, hg2⟩
  have Hb2 := Lib.hid (show BR B v2 ((xs ++ [43]) ++ Ly.pad 2 (m.off.natAbs / 3600)) w2 by first | exact hb2 | (rw [List.append_assoc]; exact hb2) | simpa using hb2)
  have Hg2 := Lib.hid (Hg1.out.trans (hg2))
  have hB2 : B ≤ w2.heap.size := by have h1 := Hg2.out.1.size; omega
  clear hb2 hg2
  have HL2 := Lib.hid (Ly.pad_length (k := 2) (a := m.off.natAbs / 3600) (by decide) hn1.out)
  go_wp2_with fail
  go_at_call 157
  refine (aint 2 (m.off.natAbs / 60 % 60) (zp % 60) HX2.out _ Hb2.out (.inl ⟨rfl, hn2.out⟩) (by have := hx'.out; have := HL2.out; simp only [List.length_append, List.length_cons, List.length_nil]; omega) hB2).mono ?_
  rintro r w3 ⟨v3, rfl, hb3, hg3⟩
  have Hb3 := Lib.hid (show BR B v3 (((xs ++ [43]) ++ Ly.pad 2 (m.off.natAbs / 3600)) ++ Ly.pad 2 (m.off.natAbs / 60 % 60)) w3 by first | exact hb3 | (rw [List.append_assoc]; exact hb3) | simpa using hb3)
  have Hg3 := Lib.hid (Hg2.out.trans (hg3))
  have hB3 : B ≤ w3.heap.size := by have h1 := Hg3.out.1.size; omega
  clear hb3 hg3
  have HL3 := Lib.hid (Ly.pad_length (k := 2) (a := m.off.natAbs / 60 % 60) (by decide) hn2.out)
  go_wp2_with fail
  go_at_call 157
  refine (aint 2 (m.off.natAbs % 60) (off % 60) HX3.out _ Hb3.out (.inl ⟨rfl, hn3.out⟩) (by have := hx'.out; have := HL2.out; have := HL3.out; simp only [List.length_append, List.length_cons, List.length_nil]; omega) hB3).mono ?_
  rintro r w4 ⟨v4, rfl, hb4, hg4⟩
  have Hb4 := Lib.hid (show BR B v4 ((((xs ++ [43]) ++ Ly.pad 2 (m.off.natAbs / 3600)) ++ Ly.pad 2 (m.off.natAbs / 60 % 60)) ++ Ly.pad 2 (m.off.natAbs % 60)) w4 by first | exact hb4 | (rw [List.append_assoc]; exact hb4) | simpa using hb4)
  have Hg4 := Lib.hid (Hg3.out.trans (hg4))
  have hB4 : B ≤ w4.heap.size := by have h1 := Hg4.out.1.size; omega
  clear hb4 hg4
  have HL4 := Lib.hid (Ly.pad_length (k := 2) (a := m.off.natAbs % 60) (by decide) hn3.out)
  go_wp2
  exact hQ _ _ _ _ _ _ _ (af_of rfl (by kernel_rfl)) (by have ht : xs ++ Ly.txt m (25) = ((((xs ++ [43]) ++ Ly.pad 2 (m.off.natAbs / 3600)) ++ Ly.pad 2 (m.off.natAbs / 60 % 60)) ++ Ly.pad 2 (m.off.natAbs % 60)) := (by show xs ++ (if m.off = 0 then [90] else Ly.zn m.off false true true) = _; rw [if_neg (by have := Hc.out; omega)]; unfold Ly.zn; rw [if_neg (by have := Hc.out; omega)] <;> simp); rw [ht]; exact Hb4.out) Hg4.out

end Go.Proofs.YtchmhdmapknmfaaGreatDoor

/-
  appendFormat: parts of a layout (printed by gen_Ma.py): 26, 27, 31.
-/
namespace Go.Proofs.YtchmhdmapknmfaaGreatDoor
open Go.RowKit

set_option maxRecDepth 100000 in
set_option maxHeartbeats 4000000 in
theorem sw_26_zero {B p : Nat} {v : Value} {l Z : ByteArray} {off A D y mo d yd h mi s : Int} {v18 v20 v92 : Value} {xs : List UInt8} {a : Act} {w : World} {m : Ly.Mo} (Q : Exit → Act → World → Prop) (hm : m.Ok) (ha : Af v l p Z off A D y mo d yd h mi s v18 (.int .i64 (26)) v20 v92 a) (hb : BR B v xs w) (hx : xs.length ≤ 890000) (hB : B ≤ w.heap.size) (ho : off = m.off) (hc : m.off = 0)
    (hQ : ∀ v' a' w' u18 u19 u20 u92, Af v' l p Z off A D y mo d yd h mi s u18 u19 u20 u92 a' → BR B v' (xs ++ Ly.txt m (26)) w' → Gw v w v' w' → Q .normal a' w') : Code.wp Tryz.prog afSw Q a w := by
  obtain ⟨f, rfl⟩ := ha
  have Hb := Lib.hid hb
  have Hm := Lib.hid hm
  have hx' := Lib.hid hx
  clear hb hm hx
  conv => arg 2; whnf
  have hbit : bits BinOp.and IntKind.i64 26 65535 = 26 := by decide
  have f0 : (off == 0) = true := by rw [beq_iff_eq]; omega
  have Hc := Lib.hid hc
  clear ho hc
  have Hg0 := Lib.hid (Gw.refl v w)
  go_wp2_with (at_builtin; refine wpList_append_br rfl _ _ rfl rfl (Hb.out.alloc _) [90] ⟨w.heap.size, 0, none⟩ 1 1 rfl rfl cells_one (by have := hx'.out; simp only [List.length_cons, List.length_nil]; omega) (by simp only [World.alloc, Array.size_push]; omega) ?_)
  intro v1 w1 hb1 hg1
  have Hb1 := Lib.hid hb1
  have Hg1 := Lib.hid (Hg0.out.trans (((Gw.refl _ _).alloc _).trans hg1))
  have hB1 : B ≤ w1.heap.size := by have h1 := Hg1.out.1.size; omega
  clear hb1 hg1
  go_wp2
  exact hQ _ _ _ _ _ _ _ (af_of rfl (by kernel_rfl)) (by have ht : xs ++ Ly.txt m (26) = (xs ++ [90]) := (by show xs ++ (if m.off = 0 then [90] else _) = _; rw [if_pos Hc.out]); rw [ht]; exact Hb1.out) Hg1.out

set_option maxRecDepth 100000 in
set_option maxHeartbeats 4000000 in
theorem sw_26_neg {B p : Nat} {v : Value} {l Z : ByteArray} {off A D y mo d yd h mi s : Int} {v18 v20 v92 : Value} {xs : List UInt8} {a : Act} {w : World} {m : Ly.Mo} (Q : Exit → Act → World → Prop) (hm : m.Ok) (ha : Af v l p Z off A D y mo d yd h mi s v18 (.int .i64 (26)) v20 v92 a) (hb : BR B v xs w) (hx : xs.length ≤ 890000) (hB : B ≤ w.heap.size) (ho : off = m.off) (hc : m.off < 0)
    (hQ : ∀ v' a' w' u18 u19 u20 u92, Af v' l p Z off A D y mo d yd h mi s u18 u19 u20 u92 a' → BR B v' (xs ++ Ly.txt m (26)) w' → Gw v w v' w' → Q .normal a' w') : Code.wp Tryz.prog afSw Q a w := by
  obtain ⟨f, rfl⟩ := ha
  have Hb := Lib.hid hb
  have Hm := Lib.hid hm
  have hx' := Lib.hid hx
  clear hb hm hx
  conv => arg 2; whnf
  have hbit : bits BinOp.and IntKind.i64 26 65535 = 26 := by decide
  have f0 : (off == 0) = false := by rw [beq_eq_false_iff_ne]; omega
  have HO := Lib.hid ho
  have H60 := Lib.hid Hm.out.off60
  obtain ⟨zp, hzp⟩ : ∃ zp : Int, zp = ((m.off.natAbs / 60 : Nat) : Int) := ⟨_, rfl⟩
  have zp0 : 1 ≤ zp := by have := Hm.out.off60; omega
  have zp1 : zp ≤ 1440 := by have := Hm.out.off1; have := Hm.out.off; omega
  have ho0 : off < 0 := by omega
  have hq1 : off.tdiv 60 = -zp := by rw [tdiv_below (by omega)]; have := Hm.out.off60; omega
  have o1 : -86400 < off := by have := Hm.out.off1; omega
  have HX3 := Lib.hid (show -off.tmod 60 = ((m.off.natAbs % 60 : Nat) : Int) by rw [Int.tmod_eq_zero_of_dvd (Int.dvd_of_emod_eq_zero (show off % 60 = 0 by rw [ho]; exact Hm.out.off60))]; have := Hm.out.off60; omega)
  have HX1 := Lib.hid (show zp / 60 = ((m.off.natAbs / 3600 : Nat) : Int) by omega)
  have HX2 := Lib.hid (show zp % 60 = ((m.off.natAbs / 60 % 60 : Nat) : Int) by omega)
  have hn1 := Lib.hid (show m.off.natAbs / 3600 < 100 by have := Hm.out.off1; have := Hm.out.off; omega)
  have hn2 := Lib.hid (show m.off.natAbs / 60 % 60 < 100 by omega)
  have hn3 := Lib.hid (show m.off.natAbs % 60 < 100 by omega)
  have Hc := Lib.hid hc
  clear ho hc hzp
  have Hg0 := Lib.hid (Gw.refl v w)
  go_wp2_with (at_builtin; refine wpList_append_br rfl _ _ rfl rfl (Hb.out.alloc _) [45] ⟨w.heap.size, 0, none⟩ 1 1 rfl rfl cells_one (by have := hx'.out; simp only [List.length_cons, List.length_nil]; omega) (by simp only [World.alloc, Array.size_push]; omega) ?_)
  intro v1 w1 hb1 hg1
  have Hb1 := Lib.hid hb1
  have Hg1 := Lib.hid (Hg0.out.trans (((Gw.refl _ _).alloc _).trans hg1))
  have hB1 : B ≤ w1.heap.size := by have h1 := Hg1.out.1.size; omega
  clear hb1 hg1
  go_wp2_with fail
  go_at_call 157
  refine (aint 2 (m.off.natAbs / 3600) (zp / 60) HX1.out _ Hb1.out (.inl ⟨rfl, hn1.out⟩) (by have := hx'.out; simp only [List.length_append, List.length_cons, List.length_nil]; omega) hB1).mono ?_
  rintro r w2 ⟨v2, rfl, hb2, hg2⟩
  have Hb2 := Lib.hid (show BR B v2 ((xs ++ [45]) ++ Ly.pad 2 (m.off.natAbs / 3600)) w2 by first | exact hb2 | (rw [List.append_assoc]; exact hb2) | simpa using hb2)
  have Hg2 := Lib.hid (Hg1.out.trans (hg2))
  have hB2 : B ≤ w2.heap.size := by have h1 := Hg2.out.1.size; omega
  clear hb2 hg2
  have HL2 := Lib.hid (Ly.pad_length (k := 2) (a := m.off.natAbs / 3600) (by decide) hn1.out)
  go_wp2
  exact hQ _ _ _ _ _ _ _ (af_of rfl (by kernel_rfl)) (by have ht : xs ++ Ly.txt m (26) = ((xs ++ [45]) ++ Ly.pad 2 (m.off.natAbs / 3600)) := (by show xs ++ (if m.off = 0 then [90] else Ly.zn m.off false false false) = _; rw [if_neg (by have := Hc.out; omega)]; unfold Ly.zn; rw [if_pos Hc.out] <;> simp); rw [ht]; exact Hb2.out) Hg2.out

set_option maxRecDepth 100000 in
set_option maxHeartbeats 4000000 in
theorem sw_26_pos {B p : Nat} {v : Value} {l Z : ByteArray} {off A D y mo d yd h mi s : Int} {v18 v20 v92 : Value} {xs : List UInt8} {a : Act} {w : World} {m : Ly.Mo} (Q : Exit → Act → World → Prop) (hm : m.Ok) (ha : Af v l p Z off A D y mo d yd h mi s v18 (.int .i64 (26)) v20 v92 a) (hb : BR B v xs w) (hx : xs.length ≤ 890000) (hB : B ≤ w.heap.size) (ho : off = m.off) (hc : 0 < m.off)
    (hQ : ∀ v' a' w' u18 u19 u20 u92, Af v' l p Z off A D y mo d yd h mi s u18 u19 u20 u92 a' → BR B v' (xs ++ Ly.txt m (26)) w' → Gw v w v' w' → Q .normal a' w') : Code.wp Tryz.prog afSw Q a w := by
  obtain ⟨f, rfl⟩ := ha
  have Hb := Lib.hid hb
  have Hm := Lib.hid hm
  have hx' := Lib.hid hx
  clear hb hm hx
  conv => arg 2; whnf
  have hbit : bits BinOp.and IntKind.i64 26 65535 = 26 := by decide
  have f0 : (off == 0) = false := by rw [beq_eq_false_iff_ne]; omega
  have HO := Lib.hid ho
  have H60 := Lib.hid Hm.out.off60
  obtain ⟨zp, hzp⟩ : ∃ zp : Int, zp = ((m.off.natAbs / 60 : Nat) : Int) := ⟨_, rfl⟩
  have zp0 : 0 ≤ zp := by have := Hm.out.off60; omega
  have zp1 : zp ≤ 1440 := by have := Hm.out.off1; have := Hm.out.off; omega
  have ho0 : 0 ≤ off := by omega
  have hq1 : off.tdiv 60 = zp := by rw [Int.tdiv_eq_ediv_of_nonneg (by omega)]; omega
  have hq2 : off / 60 = zp := by omega
  have o1 : off < 86400 := by have := Hm.out.off; omega
  have HX3 := Lib.hid (show off % 60 = ((m.off.natAbs % 60 : Nat) : Int) by omega)
  have HX1 := Lib.hid (show zp / 60 = ((m.off.natAbs / 3600 : Nat) : Int) by omega)
  have HX2 := Lib.hid (show zp % 60 = ((m.off.natAbs / 60 % 60 : Nat) : Int) by omega)
  have hn1 := Lib.hid (show m.off.natAbs / 3600 < 100 by have := Hm.out.off1; have := Hm.out.off; omega)
  have hn2 := Lib.hid (show m.off.natAbs / 60 % 60 < 100 by omega)
  have hn3 := Lib.hid (show m.off.natAbs % 60 < 100 by omega)
  have Hc := Lib.hid hc
  clear ho hc hzp
  have Hg0 := Lib.hid (Gw.refl v w)
  go_wp2_with (at_builtin; refine wpList_append_br rfl _ _ rfl rfl (Hb.out.alloc _) [43] ⟨w.heap.size, 0, none⟩ 1 1 rfl rfl cells_one (by have := hx'.out; simp only [List.length_cons, List.length_nil]; omega) (by simp only [World.alloc, Array.size_push]; omega) ?_)
  intro v1 w1 hb1 hg1
  have Hb1 := Lib.hid hb1
  have Hg1 := Lib.hid (Hg0.out.trans (((Gw.refl _ _).alloc _).trans hg1))
  have hB1 : B ≤ w1.heap.size := by have h1 := Hg1.out.1.size; omega
  clear hb1 hg1
  go_wp2_with fail
  go_at_call 157
  refine (aint 2 (m.off.natAbs / 3600) (zp / 60) HX1.out _ Hb1.out (.inl ⟨rfl, hn1.out⟩) (by have := hx'.out; simp only [List.length_append, List.length_cons, List.length_nil]; omega) hB1).mono ?_
  rintro r w2 ⟨v2, rfl, hb2, hg2⟩
  have Hb2 := Lib.hid (show BR B v2 ((xs ++ [43]) ++ Ly.pad 2 (m.off.natAbs / 3600)) w2 by first | exact hb2 | (rw [List.append_assoc]; exact hb2) | simpa using hb2)
  have Hg2 := Lib.hid (Hg1.out.trans (hg2))
  have hB2 : B ≤ w2.heap.size := by have h1 := Hg2.out.1.size; omega
  clear hb2 hg2
  have HL2 := Lib.hid (Ly.pad_length (k := 2) (a := m.off.natAbs / 3600) (by decide) hn1.out)
  go_wp2
  exact hQ _ _ _ _ _ _ _ (af_of rfl (by kernel_rfl)) (by have ht : xs ++ Ly.txt m (26) = ((xs ++ [43]) ++ Ly.pad 2 (m.off.natAbs / 3600)) := (by show xs ++ (if m.off = 0 then [90] else Ly.zn m.off false false false) = _; rw [if_neg (by have := Hc.out; omega)]; unfold Ly.zn; rw [if_neg (by have := Hc.out; omega)] <;> simp); rw [ht]; exact Hb2.out) Hg2.out

set_option maxRecDepth 100000 in
set_option maxHeartbeats 4000000 in
theorem sw_27_zero {B p : Nat} {v : Value} {l Z : ByteArray} {off A D y mo d yd h mi s : Int} {v18 v20 v92 : Value} {xs : List UInt8} {a : Act} {w : World} {m : Ly.Mo} (Q : Exit → Act → World → Prop) (hm : m.Ok) (ha : Af v l p Z off A D y mo d yd h mi s v18 (.int .i64 (27)) v20 v92 a) (hb : BR B v xs w) (hx : xs.length ≤ 890000) (hB : B ≤ w.heap.size) (ho : off = m.off) (hc : m.off = 0)
    (hQ : ∀ v' a' w' u18 u19 u20 u92, Af v' l p Z off A D y mo d yd h mi s u18 u19 u20 u92 a' → BR B v' (xs ++ Ly.txt m (27)) w' → Gw v w v' w' → Q .normal a' w') : Code.wp Tryz.prog afSw Q a w := by
  obtain ⟨f, rfl⟩ := ha
  have Hb := Lib.hid hb
  have Hm := Lib.hid hm
  have hx' := Lib.hid hx
  clear hb hm hx
  conv => arg 2; whnf
  have hbit : bits BinOp.and IntKind.i64 27 65535 = 27 := by decide
  have f0 : (off == 0) = true := by rw [beq_iff_eq]; omega
  have Hc := Lib.hid hc
  clear ho hc
  have Hg0 := Lib.hid (Gw.refl v w)
  go_wp2_with (at_builtin; refine wpList_append_br rfl _ _ rfl rfl (Hb.out.alloc _) [90] ⟨w.heap.size, 0, none⟩ 1 1 rfl rfl cells_one (by have := hx'.out; simp only [List.length_cons, List.length_nil]; omega) (by simp only [World.alloc, Array.size_push]; omega) ?_)
  intro v1 w1 hb1 hg1
  have Hb1 := Lib.hid hb1
  have Hg1 := Lib.hid (Hg0.out.trans (((Gw.refl _ _).alloc _).trans hg1))
  have hB1 : B ≤ w1.heap.size := by have h1 := Hg1.out.1.size; omega
  clear hb1 hg1
  go_wp2
  exact hQ _ _ _ _ _ _ _ (af_of rfl (by kernel_rfl)) (by have ht : xs ++ Ly.txt m (27) = (xs ++ [90]) := (by show xs ++ (if m.off = 0 then [90] else _) = _; rw [if_pos Hc.out]); rw [ht]; exact Hb1.out) Hg1.out

set_option maxRecDepth 100000 in
set_option maxHeartbeats 4000000 in
theorem sw_27_neg {B p : Nat} {v : Value} {l Z : ByteArray} {off A D y mo d yd h mi s : Int} {v18 v20 v92 : Value} {xs : List UInt8} {a : Act} {w : World} {m : Ly.Mo} (Q : Exit → Act → World → Prop) (hm : m.Ok) (ha : Af v l p Z off A D y mo d yd h mi s v18 (.int .i64 (27)) v20 v92 a) (hb : BR B v xs w) (hx : xs.length ≤ 890000) (hB : B ≤ w.heap.size) (ho : off = m.off) (hc : m.off < 0)
    (hQ : ∀ v' a' w' u18 u19 u20 u92, Af v' l p Z off A D y mo d yd h mi s u18 u19 u20 u92 a' → BR B v' (xs ++ Ly.txt m (27)) w' → Gw v w v' w' → Q .normal a' w') : Code.wp Tryz.prog afSw Q a w := by
  obtain ⟨f, rfl⟩ := ha
  have Hb := Lib.hid hb
  have Hm := Lib.hid hm
  have hx' := Lib.hid hx
  clear hb hm hx
  conv => arg 2; whnf
  have hbit : bits BinOp.and IntKind.i64 27 65535 = 27 := by decide
  have f0 : (off == 0) = false := by rw [beq_eq_false_iff_ne]; omega
  have HO := Lib.hid ho
  have H60 := Lib.hid Hm.out.off60
  obtain ⟨zp, hzp⟩ : ∃ zp : Int, zp = ((m.off.natAbs / 60 : Nat) : Int) := ⟨_, rfl⟩
  have zp0 : 1 ≤ zp := by have := Hm.out.off60; omega
  have zp1 : zp ≤ 1440 := by have := Hm.out.off1; have := Hm.out.off; omega
  have ho0 : off < 0 := by omega
  have hq1 : off.tdiv 60 = -zp := by rw [tdiv_below (by omega)]; have := Hm.out.off60; omega
  have o1 : -86400 < off := by have := Hm.out.off1; omega
  have HX3 := Lib.hid (show -off.tmod 60 = ((m.off.natAbs % 60 : Nat) : Int) by rw [Int.tmod_eq_zero_of_dvd (Int.dvd_of_emod_eq_zero (show off % 60 = 0 by rw [ho]; exact Hm.out.off60))]; have := Hm.out.off60; omega)
  have HX1 := Lib.hid (show zp / 60 = ((m.off.natAbs / 3600 : Nat) : Int) by omega)
  have HX2 := Lib.hid (show zp % 60 = ((m.off.natAbs / 60 % 60 : Nat) : Int) by omega)
  have hn1 := Lib.hid (show m.off.natAbs / 3600 < 100 by have := Hm.out.off1; have := Hm.out.off; omega)
  have hn2 := Lib.hid (show m.off.natAbs / 60 % 60 < 100 by omega)
  have hn3 := Lib.hid (show m.off.natAbs % 60 < 100 by omega)
  have Hc := Lib.hid hc
  clear ho hc hzp
  have Hg0 := Lib.hid (Gw.refl v w)
  go_wp2_with (at_builtin; refine wpList_append_br rfl _ _ rfl rfl (Hb.out.alloc _) [45] ⟨w.heap.size, 0, none⟩ 1 1 rfl rfl cells_one (by have := hx'.out; simp only [List.length_cons, List.length_nil]; omega) (by simp only [World.alloc, Array.size_push]; omega) ?_)
  intro v1 w1 hb1 hg1
  have Hb1 := Lib.hid hb1
  have Hg1 := Lib.hid (Hg0.out.trans (((Gw.refl _ _).alloc _).trans hg1))
  have hB1 : B ≤ w1.heap.size := by have h1 := Hg1.out.1.size; omega
  clear hb1 hg1
  go_wp2_with fail
  go_at_call 157
  refine (aint 2 (m.off.natAbs / 3600) (zp / 60) HX1.out _ Hb1.out (.inl ⟨rfl, hn1.out⟩) (by have := hx'.out; simp only [List.length_append, List.length_cons, List.length_nil]; omega) hB1).mono ?_
  rintro r w2 ⟨v2, rfl, hb2, hg2⟩
  have Hb2 := Lib.hid (show BR B v2 ((xs ++ [45]) ++ Ly.pad 2 (m.off.natAbs / 3600)) w2 by first | exact hb2 | (rw [List.append_assoc]; exact hb2) | simpa using hb2)
  have Hg2 := Lib.hid (Hg1.out.trans (hg2))
  have hB2 : B ≤ w2.heap.size := by have h1 := Hg2.out.1.size; omega
  clear hb2 hg2
  have HL2 := Lib.hid (Ly.pad_length (k := 2) (a := m.off.natAbs / 3600) (by decide) hn1.out)
  go_wp2_with (at_builtin; refine wpList_append_br rfl _ _ rfl rfl (Hb2.out.alloc _) [58] ⟨w2.heap.size, 0, none⟩ 1 1 rfl rfl cells_one (by have := hx'.out; have := HL2.out; simp only [List.length_append, List.length_cons, List.length_nil]; omega) (by simp only [World.alloc, Array.size_push]; omega) ?_)
  intro v3 w3 hb3 hg3
  have Hb3 := Lib.hid (show BR B v3 (((xs ++ [45]) ++ Ly.pad 2 (m.off.natAbs / 3600)) ++ [58]) w3 by first | exact hb3 | (rw [List.append_assoc]; exact hb3) | simpa using hb3)
  have Hg3 := Lib.hid (Hg2.out.trans (((Gw.refl _ _).alloc _).trans hg3))
  have hB3 : B ≤ w3.heap.size := by have h1 := Hg3.out.1.size; omega
  clear hb3 hg3
  go_wp2_with fail
  go_at_call 157
  refine (aint 2 (m.off.natAbs / 60 % 60) (zp % 60) HX2.out _ Hb3.out (.inl ⟨rfl, hn2.out⟩) (by have := hx'.out; have := HL2.out; simp only [List.length_append, List.length_cons, List.length_nil]; omega) hB3).mono ?_
  rintro r w4 ⟨v4, rfl, hb4, hg4⟩
  have Hb4 := Lib.hid (show BR B v4 ((((xs ++ [45]) ++ Ly.pad 2 (m.off.natAbs / 3600)) ++ [58]) ++ Ly.pad 2 (m.off.natAbs / 60 % 60)) w4 by first | exact hb4 | (rw [List.append_assoc]; exact hb4) | simpa using hb4)
  have Hg4 := Lib.hid (Hg3.out.trans (hg4))
  have hB4 : B ≤ w4.heap.size := by have h1 := Hg4.out.1.size; omega
  clear hb4 hg4
  have HL4 := Lib.hid (Ly.pad_length (k := 2) (a := m.off.natAbs / 60 % 60) (by decide) hn2.out)
  go_wp2
  exact hQ _ _ _ _ _ _ _ (af_of rfl (by kernel_rfl)) (by have ht : xs ++ Ly.txt m (27) = ((((xs ++ [45]) ++ Ly.pad 2 (m.off.natAbs / 3600)) ++ [58]) ++ Ly.pad 2 (m.off.natAbs / 60 % 60)) := (by show xs ++ (if m.off = 0 then [90] else Ly.zn m.off true true false) = _; rw [if_neg (by have := Hc.out; omega)]; unfold Ly.zn; rw [if_pos Hc.out] <;> simp); rw [ht]; exact Hb4.out) Hg4.out

set_option maxRecDepth 100000 in
set_option maxHeartbeats 4000000 in
theorem sw_27_pos {B p : Nat} {v : Value} {l Z : ByteArray} {off A D y mo d yd h mi s : Int} {v18 v20 v92 : Value} {xs : List UInt8} {a : Act} {w : World} {m : Ly.Mo} (Q : Exit → Act → World → Prop) (hm : m.Ok) (ha : Af v l p Z off A D y mo d yd h mi s v18 (.int .i64 (27)) v20 v92 a) (hb : BR B v xs w) (hx : xs.length ≤ 890000) (hB : B ≤ w.heap.size) (ho : off = m.off) (hc : 0 < m.off)
    (hQ : ∀ v' a' w' u18 u19 u20 u92, Af v' l p Z off A D y mo d yd h mi s u18 u19 u20 u92 a' → BR B v' (xs ++ Ly.txt m (27)) w' → Gw v w v' w' → Q .normal a' w') : Code.wp Tryz.prog afSw Q a w := by
  obtain ⟨f, rfl⟩ := ha
  have Hb := Lib.hid hb
  have Hm := Lib.hid hm
  have hx' := Lib.hid hx
  clear hb hm hx
  conv => arg 2; whnf
  have hbit : bits BinOp.and IntKind.i64 27 65535 = 27 := by decide
  have f0 : (off == 0) = false := by rw [beq_eq_false_iff_ne]; omega
  have HO := Lib.hid ho
  have H60 := Lib.hid Hm.out.off60
  obtain ⟨zp, hzp⟩ : ∃ zp : Int, zp = ((m.off.natAbs / 60 : Nat) : Int) := ⟨_, rfl⟩
  have zp0 : 0 ≤ zp := by have := Hm.out.off60; omega
  have zp1 : zp ≤ 1440 := by have := Hm.out.off1; have := Hm.out.off; omega
  have ho0 : 0 ≤ off := by omega
  have hq1 : off.tdiv 60 = zp := by rw [Int.tdiv_eq_ediv_of_nonneg (by omega)]; omega
  have hq2 : off / 60 = zp := by omega
  have o1 : off < 86400 := by have := Hm.out.off; omega
  have HX3 := Lib.hid (show off % 60 = ((m.off.natAbs % 60 : Nat) : Int) by omega)
  have HX1 := Lib.hid (show zp / 60 = ((m.off.natAbs / 3600 : Nat) : Int) by omega)
  have HX2 := Lib.hid (show zp % 60 = ((m.off.natAbs / 60 % 60 : Nat) : Int) by omega)
  have hn1 := Lib.hid (show m.off.natAbs / 3600 < 100 by have := Hm.out.off1; have := Hm.out.off; omega)
  have hn2 := Lib.hid (show m.off.natAbs / 60 % 60 < 100 by omega)
  have hn3 := Lib.hid (show m.off.natAbs % 60 < 100 by omega)
  have Hc := Lib.hid hc
  clear ho hc hzp
  have Hg0 := Lib.hid (Gw.refl v w)
  go_wp2_with (at_builtin; refine wpList_append_br rfl _ _ rfl rfl (Hb.out.alloc _) [43] ⟨w.heap.size, 0, none⟩ 1 1 rfl rfl cells_one (by have := hx'.out; simp only [List.length_cons, List.length_nil]; omega) (by simp only [World.alloc, Array.size_push]; omega) ?_)
  intro v1 w1 hb1 hg1
  have Hb1 := Lib.hid hb1
  have Hg1 := Lib.hid (Hg0.out.trans (((Gw.refl _ _).alloc _).trans hg1))
  have hB1 : B ≤ w1.heap.size := by have h1 := Hg1.out.1.size; omega
  clear hb1 hg1
  go_wp2_with fail
  go_at_call 157
  refine (aint 2 (m.off.natAbs / 3600) (zp / 60) HX1.out _ Hb1.out (.inl ⟨rfl, hn1.out⟩) (by have := hx'.out; simp only [List.length_append, List.length_cons, List.length_nil]; omega) hB1).mono ?_
  rintro r w2 ⟨v2, rfl, hb2, hg2⟩
  have Hb2 := Lib.hid (show BR B v2 ((xs ++ [43]) ++ Ly.pad 2 (m.off.natAbs / 3600)) w2 by first | exact hb2 | (rw [List.append_assoc]; exact hb2) | simpa using hb2)
  have Hg2 := Lib.hid (Hg1.out.trans (hg2))
  have hB2 : B ≤ w2.heap.size := by have h1 := Hg2.out.1.size; omega
  clear hb2 hg2
  have HL2 := Lib.hid (Ly.pad_length (k := 2) (a := m.off.natAbs / 3600) (by decide) hn1.out)
  go_wp2_with (at_builtin; refine wpList_append_br rfl _ _ rfl rfl (Hb2.out.alloc _) [58] ⟨w2.heap.size, 0, none⟩ 1 1 rfl rfl cells_one (by have := hx'.out; have := HL2.out; simp only [List.length_append, List.length_cons, List.length_nil]; omega) (by simp only [World.alloc, Array.size_push]; omega) ?_)
  intro v3 w3 hb3 hg3
  have Hb3 := Lib.hid (show BR B v3 (((xs ++ [43]) ++ Ly.pad 2 (m.off.natAbs / 3600)) ++ [58]) w3 by first | exact hb3 | (rw [List.append_assoc]; exact hb3) | simpa using hb3)
  have Hg3 := Lib.hid (Hg2.out.trans (((Gw.refl _ _).alloc _).trans hg3))
  have hB3 : B ≤ w3.heap.size := by have h1 := Hg3.out.1.size; omega
  clear hb3 hg3
  go_wp2_with fail
  go_at_call 157
  refine (aint 2 (m.off.natAbs / 60 % 60) (zp % 60) HX2.out _ Hb3.out (.inl ⟨rfl, hn2.out⟩) (by have := hx'.out; have := HL2.out; simp only [List.length_append, List.length_cons, List.length_nil]; omega) hB3).mono ?_
  rintro r w4 ⟨v4, rfl, hb4, hg4⟩
  have Hb4 := Lib.hid (show BR B v4 ((((xs ++ [43]) ++ Ly.pad 2 (m.off.natAbs / 3600)) ++ [58]) ++ Ly.pad 2 (m.off.natAbs / 60 % 60)) w4 by first | exact hb4 | (rw [List.append_assoc]; exact hb4) | simpa using hb4)
  have Hg4 := Lib.hid (Hg3.out.trans (hg4))
  have hB4 : B ≤ w4.heap.size := by have h1 := Hg4.out.1.size; omega
  clear hb4 hg4
  have HL4 := Lib.hid (Ly.pad_length (k := 2) (a := m.off.natAbs / 60 % 60) (by decide) hn2.out)
  go_wp2
  exact hQ _ _ _ _ _ _ _ (af_of rfl (by kernel_rfl)) (by have ht : xs ++ Ly.txt m (27) = ((((xs ++ [43]) ++ Ly.pad 2 (m.off.natAbs / 3600)) ++ [58]) ++ Ly.pad 2 (m.off.natAbs / 60 % 60)) := (by show xs ++ (if m.off = 0 then [90] else Ly.zn m.off true true false) = _; rw [if_neg (by have := Hc.out; omega)]; unfold Ly.zn; rw [if_neg (by have := Hc.out; omega)] <;> simp); rw [ht]; exact Hb4.out) Hg4.out

set_option maxRecDepth 100000 in
set_option maxHeartbeats 4000000 in
theorem sw_31_neg {B p : Nat} {v : Value} {l Z : ByteArray} {off A D y mo d yd h mi s : Int} {v18 v20 v92 : Value} {xs : List UInt8} {a : Act} {w : World} {m : Ly.Mo} (Q : Exit → Act → World → Prop) (hm : m.Ok) (ha : Af v l p Z off A D y mo d yd h mi s v18 (.int .i64 (31)) v20 v92 a) (hb : BR B v xs w) (hx : xs.length ≤ 890000) (hB : B ≤ w.heap.size) (ho : off = m.off) (hc : m.off < 0)
    (hQ : ∀ v' a' w' u18 u19 u20 u92, Af v' l p Z off A D y mo d yd h mi s u18 u19 u20 u92 a' → BR B v' (xs ++ Ly.txt m (31)) w' → Gw v w v' w' → Q .normal a' w') : Code.wp Tryz.prog afSw Q a w := by
  obtain ⟨f, rfl⟩ := ha
  have Hb := Lib.hid hb
  have Hm := Lib.hid hm
  have hx' := Lib.hid hx
  clear hb hm hx
  conv => arg 2; whnf
  have hbit : bits BinOp.and IntKind.i64 31 65535 = 31 := by decide
  have f0 : (off == 0) = true ∨ (off == 0) = false := by cases (off == 0) <;> simp
  have HO := Lib.hid ho
  have H60 := Lib.hid Hm.out.off60
  obtain ⟨zp, hzp⟩ : ∃ zp : Int, zp = ((m.off.natAbs / 60 : Nat) : Int) := ⟨_, rfl⟩
  have zp0 : 1 ≤ zp := by have := Hm.out.off60; omega
  have zp1 : zp ≤ 1440 := by have := Hm.out.off1; have := Hm.out.off; omega
  have ho0 : off < 0 := by omega
  have hq1 : off.tdiv 60 = -zp := by rw [tdiv_below (by omega)]; have := Hm.out.off60; omega
  have o1 : -86400 < off := by have := Hm.out.off1; omega
  have HX3 := Lib.hid (show -off.tmod 60 = ((m.off.natAbs % 60 : Nat) : Int) by rw [Int.tmod_eq_zero_of_dvd (Int.dvd_of_emod_eq_zero (show off % 60 = 0 by rw [ho]; exact Hm.out.off60))]; have := Hm.out.off60; omega)
  have HX1 := Lib.hid (show zp / 60 = ((m.off.natAbs / 3600 : Nat) : Int) by omega)
  have HX2 := Lib.hid (show zp % 60 = ((m.off.natAbs / 60 % 60 : Nat) : Int) by omega)
  have hn1 := Lib.hid (show m.off.natAbs / 3600 < 100 by have := Hm.out.off1; have := Hm.out.off; omega)
  have hn2 := Lib.hid (show m.off.natAbs / 60 % 60 < 100 by omega)
  have hn3 := Lib.hid (show m.off.natAbs % 60 < 100 by omega)
  have Hc := Lib.hid hc
  clear ho hc hzp
  replace f0 : (off == 0) = false := by rw [beq_eq_false_iff_ne]; omega
  have Hg0 := Lib.hid (Gw.refl v w)
  go_wp2_with (at_builtin; refine wpList_append_br rfl _ _ rfl rfl (Hb.out.alloc _) [45] ⟨w.heap.size, 0, none⟩ 1 1 rfl rfl cells_one (by have := hx'.out; simp only [List.length_cons, List.length_nil]; omega) (by simp only [World.alloc, Array.size_push]; omega) ?_)
  intro v1 w1 hb1 hg1
  have Hb1 := Lib.hid hb1
  have Hg1 := Lib.hid (Hg0.out.trans (((Gw.refl _ _).alloc _).trans hg1))
  have hB1 : B ≤ w1.heap.size := by have h1 := Hg1.out.1.size; omega
  clear hb1 hg1
  go_wp2_with fail
  go_at_call 157
  refine (aint 2 (m.off.natAbs / 3600) (zp / 60) HX1.out _ Hb1.out (.inl ⟨rfl, hn1.out⟩) (by have := hx'.out; simp only [List.length_append, List.length_cons, List.length_nil]; omega) hB1).mono ?_
  rintro r w2 ⟨v2, rfl, hb2, hg2⟩
  have Hb2 := Lib.hid (show BR B v2 ((xs ++ [45]) ++ Ly.pad 2 (m.off.natAbs / 3600)) w2 by first | exact hb2 | (rw [List.append_assoc]; exact hb2) | simpa using hb2)
  have Hg2 := Lib.hid (Hg1.out.trans (hg2))
  have hB2 : B ≤ w2.heap.size := by have h1 := Hg2.out.1.size; omega
  clear hb2 hg2
  have HL2 := Lib.hid (Ly.pad_length (k := 2) (a := m.off.natAbs / 3600) (by decide) hn1.out)
  go_wp2
  exact hQ _ _ _ _ _ _ _ (af_of rfl (by kernel_rfl)) (by have ht : xs ++ Ly.txt m (31) = ((xs ++ [45]) ++ Ly.pad 2 (m.off.natAbs / 3600)) := (by show xs ++ Ly.zn m.off false false false = _; unfold Ly.zn; rw [if_pos Hc.out] <;> simp); rw [ht]; exact Hb2.out) Hg2.out

set_option maxRecDepth 100000 in
set_option maxHeartbeats 4000000 in
theorem sw_31_pos {B p : Nat} {v : Value} {l Z : ByteArray} {off A D y mo d yd h mi s : Int} {v18 v20 v92 : Value} {xs : List UInt8} {a : Act} {w : World} {m : Ly.Mo} (Q : Exit → Act → World → Prop) (hm : m.Ok) (ha : Af v l p Z off A D y mo d yd h mi s v18 (.int .i64 (31)) v20 v92 a) (hb : BR B v xs w) (hx : xs.length ≤ 890000) (hB : B ≤ w.heap.size) (ho : off = m.off) (hc : 0 ≤ m.off)
    (hQ : ∀ v' a' w' u18 u19 u20 u92, Af v' l p Z off A D y mo d yd h mi s u18 u19 u20 u92 a' → BR B v' (xs ++ Ly.txt m (31)) w' → Gw v w v' w' → Q .normal a' w') : Code.wp Tryz.prog afSw Q a w := by
  obtain ⟨f, rfl⟩ := ha
  have Hb := Lib.hid hb
  have Hm := Lib.hid hm
  have hx' := Lib.hid hx
  clear hb hm hx
  conv => arg 2; whnf
  have hbit : bits BinOp.and IntKind.i64 31 65535 = 31 := by decide
  have f0 : (off == 0) = true ∨ (off == 0) = false := by cases (off == 0) <;> simp
  have HO := Lib.hid ho
  have H60 := Lib.hid Hm.out.off60
  obtain ⟨zp, hzp⟩ : ∃ zp : Int, zp = ((m.off.natAbs / 60 : Nat) : Int) := ⟨_, rfl⟩
  have zp0 : 0 ≤ zp := by have := Hm.out.off60; omega
  have zp1 : zp ≤ 1440 := by have := Hm.out.off1; have := Hm.out.off; omega
  have ho0 : 0 ≤ off := by omega
  have hq1 : off.tdiv 60 = zp := by rw [Int.tdiv_eq_ediv_of_nonneg (by omega)]; omega
  have hq2 : off / 60 = zp := by omega
  have o1 : off < 86400 := by have := Hm.out.off; omega
  have HX3 := Lib.hid (show off % 60 = ((m.off.natAbs % 60 : Nat) : Int) by omega)
  have HX1 := Lib.hid (show zp / 60 = ((m.off.natAbs / 3600 : Nat) : Int) by omega)
  have HX2 := Lib.hid (show zp % 60 = ((m.off.natAbs / 60 % 60 : Nat) : Int) by omega)
  have hn1 := Lib.hid (show m.off.natAbs / 3600 < 100 by have := Hm.out.off1; have := Hm.out.off; omega)
  have hn2 := Lib.hid (show m.off.natAbs / 60 % 60 < 100 by omega)
  have hn3 := Lib.hid (show m.off.natAbs % 60 < 100 by omega)
  have Hc := Lib.hid hc
  clear ho hc hzp
  rcases f0 with f0 | f0
  · skip
    have Hg0 := Lib.hid (Gw.refl v w)
    go_wp2_with (at_builtin; refine wpList_append_br rfl _ _ rfl rfl (Hb.out.alloc _) [43] ⟨w.heap.size, 0, none⟩ 1 1 rfl rfl cells_one (by have := hx'.out; simp only [List.length_cons, List.length_nil]; omega) (by simp only [World.alloc, Array.size_push]; omega) ?_)
    intro v1 w1 hb1 hg1
    have Hb1 := Lib.hid hb1
    have Hg1 := Lib.hid (Hg0.out.trans (((Gw.refl _ _).alloc _).trans hg1))
    have hB1 : B ≤ w1.heap.size := by have h1 := Hg1.out.1.size; omega
    clear hb1 hg1
    go_wp2_with fail
    go_at_call 157
    refine (aint 2 (m.off.natAbs / 3600) (zp / 60) HX1.out _ Hb1.out (.inl ⟨rfl, hn1.out⟩) (by have := hx'.out; simp only [List.length_append, List.length_cons, List.length_nil]; omega) hB1).mono ?_
    rintro r w2 ⟨v2, rfl, hb2, hg2⟩
    have Hb2 := Lib.hid (show BR B v2 ((xs ++ [43]) ++ Ly.pad 2 (m.off.natAbs / 3600)) w2 by first | exact hb2 | (rw [List.append_assoc]; exact hb2) | simpa using hb2)
    have Hg2 := Lib.hid (Hg1.out.trans (hg2))
    have hB2 : B ≤ w2.heap.size := by have h1 := Hg2.out.1.size; omega
    clear hb2 hg2
    have HL2 := Lib.hid (Ly.pad_length (k := 2) (a := m.off.natAbs / 3600) (by decide) hn1.out)
    go_wp2
    exact hQ _ _ _ _ _ _ _ (af_of rfl (by kernel_rfl)) (by have ht : xs ++ Ly.txt m (31) = ((xs ++ [43]) ++ Ly.pad 2 (m.off.natAbs / 3600)) := (by show xs ++ Ly.zn m.off false false false = _; unfold Ly.zn; rw [if_neg (by have := Hc.out; omega)] <;> simp); rw [ht]; exact Hb2.out) Hg2.out
  · skip
    have Hg0 := Lib.hid (Gw.refl v w)
    go_wp2_with (at_builtin; refine wpList_append_br rfl _ _ rfl rfl (Hb.out.alloc _) [43] ⟨w.heap.size, 0, none⟩ 1 1 rfl rfl cells_one (by have := hx'.out; simp only [List.length_cons, List.length_nil]; omega) (by simp only [World.alloc, Array.size_push]; omega) ?_)
    intro v1 w1 hb1 hg1
    have Hb1 := Lib.hid hb1
    have Hg1 := Lib.hid (Hg0.out.trans (((Gw.refl _ _).alloc _).trans hg1))
    have hB1 : B ≤ w1.heap.size := by have h1 := Hg1.out.1.size; omega
    clear hb1 hg1
    go_wp2_with fail
    go_at_call 157
    refine (aint 2 (m.off.natAbs / 3600) (zp / 60) HX1.out _ Hb1.out (.inl ⟨rfl, hn1.out⟩) (by have := hx'.out; simp only [List.length_append, List.length_cons, List.length_nil]; omega) hB1).mono ?_
    rintro r w2 ⟨v2, rfl, hb2, hg2⟩
    have Hb2 := Lib.hid (show BR B v2 ((xs ++ [43]) ++ Ly.pad 2 (m.off.natAbs / 3600)) w2 by first | exact hb2 | (rw [List.append_assoc]; exact hb2) | simpa using hb2)
    have Hg2 := Lib.hid (Hg1.out.trans (hg2))
    have hB2 : B ≤ w2.heap.size := by have h1 := Hg2.out.1.size; omega
    clear hb2 hg2
    have HL2 := Lib.hid (Ly.pad_length (k := 2) (a := m.off.natAbs / 3600) (by decide) hn1.out)
    go_wp2
    exact hQ _ _ _ _ _ _ _ (af_of rfl (by kernel_rfl)) (by have ht : xs ++ Ly.txt m (31) = ((xs ++ [43]) ++ Ly.pad 2 (m.off.natAbs / 3600)) := (by show xs ++ Ly.zn m.off false false false = _; unfold Ly.zn; rw [if_neg (by have := Hc.out; omega)] <;> simp); rw [ht]; exact Hb2.out) Hg2.out

end Go.Proofs.YtchmhdmapknmfaaGreatDoor
