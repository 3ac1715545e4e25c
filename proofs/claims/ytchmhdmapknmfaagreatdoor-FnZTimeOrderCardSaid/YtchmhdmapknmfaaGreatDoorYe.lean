/-
  Joined: Mc5 Mc6 Mc7. (Joined by merge.py out of several texts.)
-/
import Derived.Test.YtchmhdmapknmfaaGreatDoorYc

/-
  appendFormat: parts of a layout (printed by gen_Ma.py): 28, 29.
-/
namespace Go.Proofs.YtchmhdmapknmfaaGreatDoor
open Go.RowKit

set_option maxRecDepth 100000 in
set_option maxHeartbeats 4000000 in
theorem sw_28_zero {B p : Nat} {v : Value} {l Z : ByteArray} {off A D y mo d yd h mi s : Int} {v18 v20 v92 : Value} {xs : List UInt8} {a : Act} {w : World} {m : Ly.Mo} (Q : Exit → Act → World → Prop) (hm : m.Ok) (ha : Af v l p Z off A D y mo d yd h mi s v18 (.int .i64 (28)) v20 v92 a) (hb : BR B v xs w) (hx : xs.length ≤ 890000) (hB : B ≤ w.heap.size) (ho : off = m.off) (hc : m.off = 0)
    (hQ : ∀ v' a' w' u18 u19 u20 u92, Af v' l p Z off A D y mo d yd h mi s u18 u19 u20 u92 a' → BR B v' (xs ++ Ly.txt m (28)) w' → Gw v w v' w' → Q .normal a' w') : Code.wp Tryz.prog afSw Q a w := by
  obtain ⟨f, rfl⟩ := ha
  have Hb := Lib.hid hb
  have Hm := Lib.hid hm
  have hx' := Lib.hid hx
  clear hb hm hx
  conv => arg 2; whnf
  have hbit : bits BinOp.and IntKind.i64 28 65535 = 28 := by decide
  have f0 : (off == 0) = true := by rw [beq_iff_eq]; omega
  have Hc := Lib.hid hc
  clear ho hc
  have Hg0 := Lib.hid (Gw.refl v w)
  go_wp2_with (at_builtin; refine wpList_append_br rfl _ _ rfl rfl (Hb.out.alloc _) [90] ⟨w.heap.size, 0, none⟩ 1 1 rfl rfl cells_one (by have := hx'.out; simp only [List.length_cons, List.length_nil]; omega) (by simp only [World.alloc, Array.size_push]; omega) ?_)
  intro v1 w1 hb1 hg1
  have Hb1 := Lib.hid hb1
  have Hg1 := Lib.hid (Hg0.out.trans (((Gw.refl _ _).alloc _).trans hg1))
  have hB1 : B ≤ w1.heap.size := by have h1 := Hg1.out.1.size; omega
  clear hb1 hg1
  go_wp2
  exact hQ _ _ _ _ _ _ _ (af_of rfl (by kernel_rfl)) (by have ht : xs ++ Ly.txt m (28) = (xs ++ [90]) := (by show xs ++ (if m.off = 0 then [90] else _) = _; rw [if_pos Hc.out]); rw [ht]; exact Hb1.out) Hg1.out

set_option maxRecDepth 100000 in
set_option maxHeartbeats 4000000 in
theorem sw_28_neg {B p : Nat} {v : Value} {l Z : ByteArray} {off A D y mo d yd h mi s : Int} {v18 v20 v92 : Value} {xs : List UInt8} {a : Act} {w : World} {m : Ly.Mo} (Q : Exit → Act → World → Prop) (hm : m.Ok) (ha : Af v l p Z off A D y mo d yd h mi s v18 (.int .i64 (28)) v20 v92 a) (hb : BR B v xs w) (hx : xs.length ≤ 890000) (hB : B ≤ w.heap.size) (ho : off = m.off) (hc : m.off < 0)
    (hQ : ∀ v' a' w' u18 u19 u20 u92, Af v' l p Z off A D y mo d yd h mi s u18 u19 u20 u92 a' → BR B v' (xs ++ Ly.txt m (28)) w' → Gw v w v' w' → Q .normal a' w') : Code.wp Tryz.prog afSw Q a w := by
  obtain ⟨f, rfl⟩ := ha
  have Hb := Lib.hid hb
  have Hm := Lib.hid hm
  have hx' := Lib.hid hx
  clear hb hm hx
  conv => arg 2; whnf
  have hbit : bits BinOp.and IntKind.i64 28 65535 = 28 := by decide
  have f0 : (off == 0) = false := by rw [beq_eq_false_iff_ne]; omega
  have HO := Lib.hid ho
  have H60 := Lib.hid Hm.out.off60
  obtain ⟨zp, hzp⟩ : ∃ zp : Int, zp = ((m.off.natAbs / 60 : Nat) : Int) := ⟨_, rfl⟩
  have zp0 : 1 ≤ zp := by have := Hm.out.off60; omega
  have zp1 : zp ≤ 1440 := by have := Hm.out.off1; have := Hm.out.off; omega
  have ho0 : off < 0 := by omega
  have hq1 : off.tdiv 60 = -zp := by rw [tdiv_below (by omega)]; have := Hm.out.off60; omega
  have o1 : -86400 < off := by have := Hm.out.off1; omega
  have HX3 := Lib.hid (show -off.tmod 60 = ((m.off.natAbs % 60 : Nat) : Int) by rw [Int.tmod_eq_zero_of_dvd (Int.dvd_of_emod_eq_zero (show off % 60 = 0 by rw [ho]; exact Hm.out.off60))]; have := Hm.out.off60; omega)
  have HX1 := Lib.hid (show zp / 60 = ((m.off.natAbs / 3600 : Nat) : Int) by omega)
  have HX2 := Lib.hid (show zp % 60 = ((m.off.natAbs / 60 % 60 : Nat) : Int) by omega)
  have hn1 := Lib.hid (show m.off.natAbs / 3600 < 100 by have := Hm.out.off1; have := Hm.out.off; omega)
  have hn2 := Lib.hid (show m.off.natAbs / 60 % 60 < 100 by omega)
  have hn3 := Lib.hid (show m.off.natAbs % 60 < 100 by omega)
  have Hc := Lib.hid hc
  clear ho hc hzp
  have Hg0 := Lib.hid (Gw.refl v w)
  go_wp2_with (at_builtin; refine wpList_append_br rfl _ _ rfl rfl (Hb.out.alloc _) [45] ⟨w.heap.size, 0, none⟩ 1 1 rfl rfl cells_one (by have := hx'.out; simp only [List.length_cons, List.length_nil]; omega) (by simp only [World.alloc, Array.size_push]; omega) ?_)
  intro v1 w1 hb1 hg1
  have Hb1 := Lib.hid hb1
  have Hg1 := Lib.hid (Hg0.out.trans (((Gw.refl _ _).alloc _).trans hg1))
  have hB1 : B ≤ w1.heap.size := by have h1 := Hg1.out.1.size; omega
  clear hb1 hg1
  go_wp2_with fail
  go_at_call 157
  refine (aint 2 (m.off.natAbs / 3600) (zp / 60) HX1.out _ Hb1.out (.inl ⟨rfl, hn1.out⟩) (by have := hx'.out; simp only [List.length_append, List.length_cons, List.length_nil]; omega) hB1).mono ?_
  rintro r w2 ⟨v2, rfl, hb2, hg2⟩
  have Hb2 := Lib.hid (show BR B v2 ((xs ++ [45]) ++ Ly.pad 2 (m.off.natAbs / 3600)) w2 by first | exact hb2 | (rw [List.append_assoc]; exact hb2) | simpa using hb2)
  have Hg2 := Lib.hid (Hg1.out.trans (hg2))
  have hB2 : B ≤ w2.heap.size := by have h1 := Hg2.out.1.size; omega
  clear hb2 hg2
  have HL2 := Lib.hid (Ly.pad_length (k := 2) (a := m.off.natAbs / 3600) (by decide) hn1.out)
  go_wp2_with (at_builtin; refine wpList_append_br rfl _ _ rfl rfl (Hb2.out.alloc _) [58] ⟨w2.heap.size, 0, none⟩ 1 1 rfl rfl cells_one (by have := hx'.out; have := HL2.out; simp only [List.length_append, List.length_cons, List.length_nil]; omega) (by simp only [World.alloc, Array.size_push]; omega) ?_)
  intro v3 w3 hb3 hg3
  have Hb3 := Lib.hid (show BR B v3 (((xs ++ [45]) ++ Ly.pad 2 (m.off.natAbs / 3600)) ++ [58]) w3 by first | exact hb3 | (rw [List.append_assoc]; exact hb3) | simpa using hb3)
  have Hg3 := Lib.hid (Hg2.out.trans (((Gw.refl _ _).alloc _).trans hg3))
  have hB3 : B ≤ w3.heap.size := by have h1 := Hg3.out.1.size; omega
  clear hb3 hg3
  go_wp2_with fail
  go_at_call 157
  refine (aint 2 (m.off.natAbs / 60 % 60) (zp % 60) HX2.out _ Hb3.out (.inl ⟨rfl, hn2.out⟩) (by have := hx'.out; have := HL2.out; simp only [List.length_append, List.length_cons, List.length_nil]; omega) hB3).mono ?_
  rintro r w4 ⟨v4, rfl, hb4, hg4⟩
  have Hb4 := Lib.hid (show BR B v4 ((((xs ++ [45]) ++ Ly.pad 2 (m.off.natAbs / 3600)) ++ [58]) ++ Ly.pad 2 (m.off.natAbs / 60 % 60)) w4 by first | exact hb4 | (rw [List.append_assoc]; exact hb4) | simpa using hb4)
  have Hg4 := Lib.hid (Hg3.out.trans (hg4))
  have hB4 : B ≤ w4.heap.size := by have h1 := Hg4.out.1.size; omega
  clear hb4 hg4
  have HL4 := Lib.hid (Ly.pad_length (k := 2) (a := m.off.natAbs / 60 % 60) (by decide) hn2.out)
  go_wp2_with (at_builtin; refine wpList_append_br rfl _ _ rfl rfl (Hb4.out.alloc _) [58] ⟨w4.heap.size, 0, none⟩ 1 1 rfl rfl cells_one (by have := hx'.out; have := HL2.out; have := HL4.out; simp only [List.length_append, List.length_cons, List.length_nil]; omega) (by simp only [World.alloc, Array.size_push]; omega) ?_)
  intro v5 w5 hb5 hg5
  have Hb5 := Lib.hid (show BR B v5 (((((xs ++ [45]) ++ Ly.pad 2 (m.off.natAbs / 3600)) ++ [58]) ++ Ly.pad 2 (m.off.natAbs / 60 % 60)) ++ [58]) w5 by first | exact hb5 | (rw [List.append_assoc]; exact hb5) | simpa using hb5)
  have Hg5 := Lib.hid (Hg4.out.trans (((Gw.refl _ _).alloc _).trans hg5))
  have hB5 : B ≤ w5.heap.size := by have h1 := Hg5.out.1.size; omega
  clear hb5 hg5
  go_wp2_with fail
  go_at_call 157
  refine (aint 2 (m.off.natAbs % 60) (-off.tmod 60) HX3.out _ Hb5.out (.inl ⟨rfl, hn3.out⟩) (by have := hx'.out; have := HL2.out; have := HL4.out; simp only [List.length_append, List.length_cons, List.length_nil]; omega) hB5).mono ?_
  rintro r w6 ⟨v6, rfl, hb6, hg6⟩
  have Hb6 := Lib.hid (show BR B v6 ((((((xs ++ [45]) ++ Ly.pad 2 (m.off.natAbs / 3600)) ++ [58]) ++ Ly.pad 2 (m.off.natAbs / 60 % 60)) ++ [58]) ++ Ly.pad 2 (m.off.natAbs % 60)) w6 by first | exact hb6 | (rw [List.append_assoc]; exact hb6) | simpa using hb6)
  have Hg6 := Lib.hid (Hg5.out.trans (hg6))
  have hB6 : B ≤ w6.heap.size := by have h1 := Hg6.out.1.size; omega
  clear hb6 hg6
  have HL6 := Lib.hid (Ly.pad_length (k := 2) (a := m.off.natAbs % 60) (by decide) hn3.out)
  go_wp2
  exact hQ _ _ _ _ _ _ _ (af_of rfl (by kernel_rfl)) (by have ht : xs ++ Ly.txt m (28) = ((((((xs ++ [45]) ++ Ly.pad 2 (m.off.natAbs / 3600)) ++ [58]) ++ Ly.pad 2 (m.off.natAbs / 60 % 60)) ++ [58]) ++ Ly.pad 2 (m.off.natAbs % 60)) := (by show xs ++ (if m.off = 0 then [90] else Ly.zn m.off true true true) = _; rw [if_neg (by have := Hc.out; omega)]; unfold Ly.zn; rw [if_pos Hc.out] <;> simp); rw [ht]; exact Hb6.out) Hg6.out

set_option maxRecDepth 100000 in
set_option maxHeartbeats 4000000 in
theorem sw_28_pos {B p : Nat} {v : Value} {l Z : ByteArray} {off A D y mo d yd h mi s : Int} {v18 v20 v92 : Value} {xs : List UInt8} {a : Act} {w : World} {m : Ly.Mo} (Q : Exit → Act → World → Prop) (hm : m.Ok) (ha : Af v l p Z off A D y mo d yd h mi s v18 (.int .i64 (28)) v20 v92 a) (hb : BR B v xs w) (hx : xs.length ≤ 890000) (hB : B ≤ w.heap.size) (ho : off = m.off) (hc : 0 < m.off)
    (hQ : ∀ v' a' w' u18 u19 u20 u92, Af v' l p Z off A D y mo d yd h mi s u18 u19 u20 u92 a' → BR B v' (xs ++ Ly.txt m (28)) w' → Gw v w v' w' → Q .normal a' w') : Code.wp Tryz.prog afSw Q a w := by
  obtain ⟨f, rfl⟩ := ha
  have Hb := Lib.hid hb
  have Hm := Lib.hid hm
  have hx' := Lib.hid hx
  clear hb hm hx
  conv => arg 2; whnf
  have hbit : bits BinOp.and IntKind.i64 28 65535 = 28 := by decide
  have f0 : (off == 0) = false := by rw [beq_eq_false_iff_ne]; omega
  have HO := Lib.hid ho
  have H60 := Lib.hid Hm.out.off60
  obtain ⟨zp, hzp⟩ : ∃ zp : Int, zp = ((m.off.natAbs / 60 : Nat) : Int) := ⟨_, rfl⟩
  have zp0 : 0 ≤ zp := by have := Hm.out.off60; omega
  have zp1 : zp ≤ 1440 := by have := Hm.out.off1; have := Hm.out.off; omega
  have ho0 : 0 ≤ off := by omega
  have hq1 : off.tdiv 60 = zp := by rw [Int.tdiv_eq_ediv_of_nonneg (by omega)]; omega
  have hq2 : off / 60 = zp := by omega
  have o1 : off < 86400 := by have := Hm.out.off; omega
  have HX3 := Lib.hid (show off % 60 = ((m.off.natAbs % 60 : Nat) : Int) by omega)
  have HX1 := Lib.hid (show zp / 60 = ((m.off.natAbs / 3600 : Nat) : Int) by omega)
  have HX2 := Lib.hid (show zp % 60 = ((m.off.natAbs / 60 % 60 : Nat) : Int) by omega)
  have hn1 := Lib.hid (show m.off.natAbs / 3600 < 100 by have := Hm.out.off1; have := Hm.out.off; omega)
  have hn2 := Lib.hid (show m.off.natAbs / 60 % 60 < 100 by omega)
  have hn3 := Lib.hid (show m.off.natAbs % 60 < 100 by omega)
  have Hc := Lib.hid hc
  clear ho hc hzp
  have Hg0 := Lib.hid (Gw.refl v w)
  go_wp2_with (at_builtin; refine wpList_append_br rfl _ _ rfl rfl (Hb.out.alloc _) [43] ⟨w.heap.size, 0, none⟩ 1 1 rfl rfl cells_one (by have := hx'.out; simp only [List.length_cons, List.length_nil]; omega) (by simp only [World.alloc, Array.size_push]; omega) ?_)
  intro v1 w1 hb1 hg1
  have Hb1 := Lib.hid hb1
  have Hg1 := Lib.hid (Hg0.out.trans (((Gw.refl _ _).alloc _).trans hg1))
  have hB1 : B ≤ w1.heap.size := by have h1 := Hg1.out.1.size; omega
  clear hb1 hg1
  go_wp2_with fail
  go_at_call 157
  refine (aint 2 (m.off.natAbs / 3600) (zp / 60) HX1.out _ Hb1.out (.inl ⟨rfl, hn1.out⟩) (by have := hx'.out; simp only [List.length_append, List.length_cons, List.length_nil]; omega) hB1).mono ?_
  rintro r w2 ⟨v2, rfl, hb2, hg2⟩
  have Hb2 := Lib.hid (show BR B v2 ((xs ++ [43]) ++ Ly.pad 2 (m.off.natAbs / 3600)) w2 by first | exact hb2 | (rw [List.append_assoc]; exact hb2) | simpa using hb2)
  have Hg2 := Lib.hid (Hg1.out.trans (hg2))
  have hB2 : B ≤ w2.heap.size := by have h1 := Hg2.out.1.size; omega
  clear hb2 hg2
  have HL2 := Lib.hid (Ly.pad_length (k := 2) (a := m.off.natAbs / 3600) (by decide) hn1.out)
  go_wp2_with (at_builtin; refine wpList_append_br rfl _ _ rfl rfl (Hb2.out.alloc _) [58] ⟨w2.heap.size, 0, none⟩ 1 1 rfl rfl cells_one (by have := hx'.out; have := HL2.out; simp only [List.length_append, List.length_cons, List.length_nil]; omega) (by simp only [World.alloc, Array.size_push]; omega) ?_)
  intro v3 w3 hb3 hg3
  have Hb3 := Lib.hid (show BR B v3 (((xs ++ [43]) ++ Ly.pad 2 (m.off.natAbs / 3600)) ++ [58]) w3 by first | exact hb3 | (rw [List.append_assoc]; exact hb3) | simpa using hb3)
  have Hg3 := Lib.hid (Hg2.out.trans (((Gw.refl _ _).alloc _).trans hg3))
  have hB3 : B ≤ w3.heap.size := by have h1 := Hg3.out.1.size; omega
  clear hb3 hg3
  go_wp2_with fail
  go_at_call 157
  refine (aint 2 (m.off.natAbs / 60 % 60) (zp % 60) HX2.out _ Hb3.out (.inl ⟨rfl, hn2.out⟩) (by have := hx'.out; have := HL2.out; simp only [List.length_append, List.length_cons, List.length_nil]; omega) hB3).mono ?_
  rintro r w4 ⟨v4, rfl, hb4, hg4⟩
  have Hb4 := Lib.hid (show BR B v4 ((((xs ++ [43]) ++ Ly.pad 2 (m.off.natAbs / 3600)) ++ [58]) ++ Ly.pad 2 (m.off.natAbs / 60 % 60)) w4 by first | exact hb4 | (rw [List.append_assoc]; exact hb4) | simpa using hb4)
  have Hg4 := Lib.hid (Hg3.out.trans (hg4))
  have hB4 : B ≤ w4.heap.size := by have h1 := Hg4.out.1.size; omega
  clear hb4 hg4
  have HL4 := Lib.hid (Ly.pad_length (k := 2) (a := m.off.natAbs / 60 % 60) (by decide) hn2.out)
  go_wp2_with (at_builtin; refine wpList_append_br rfl _ _ rfl rfl (Hb4.out.alloc _) [58] ⟨w4.heap.size, 0, none⟩ 1 1 rfl rfl cells_one (by have := hx'.out; have := HL2.out; have := HL4.out; simp only [List.length_append, List.length_cons, List.length_nil]; omega) (by simp only [World.alloc, Array.size_push]; omega) ?_)
  intro v5 w5 hb5 hg5
  have Hb5 := Lib.hid (show BR B v5 (((((xs ++ [43]) ++ Ly.pad 2 (m.off.natAbs / 3600)) ++ [58]) ++ Ly.pad 2 (m.off.natAbs / 60 % 60)) ++ [58]) w5 by first | exact hb5 | (rw [List.append_assoc]; exact hb5) | simpa using hb5)
  have Hg5 := Lib.hid (Hg4.out.trans (((Gw.refl _ _).alloc _).trans hg5))
  have hB5 : B ≤ w5.heap.size := by have h1 := Hg5.out.1.size; omega
  clear hb5 hg5
  go_wp2_with fail
  go_at_call 157
  refine (aint 2 (m.off.natAbs % 60) (off % 60) HX3.out _ Hb5.out (.inl ⟨rfl, hn3.out⟩) (by have := hx'.out; have := HL2.out; have := HL4.out; simp only [List.length_append, List.length_cons, List.length_nil]; omega) hB5).mono ?_
  rintro r w6 ⟨v6, rfl, hb6, hg6⟩
  have Hb6 := Lib.hid (show BR B v6 ((((((xs ++ [43]) ++ Ly.pad 2 (m.off.natAbs / 3600)) ++ [58]) ++ Ly.pad 2 (m.off.natAbs / 60 % 60)) ++ [58]) ++ Ly.pad 2 (m.off.natAbs % 60)) w6 by first | exact hb6 | (rw [List.append_assoc]; exact hb6) | simpa using hb6)
  have Hg6 := Lib.hid (Hg5.out.trans (hg6))
  have hB6 : B ≤ w6.heap.size := by have h1 := Hg6.out.1.size; omega
  clear hb6 hg6
  have HL6 := Lib.hid (Ly.pad_length (k := 2) (a := m.off.natAbs % 60) (by decide) hn3.out)
  go_wp2
  exact hQ _ _ _ _ _ _ _ (af_of rfl (by kernel_rfl)) (by have ht : xs ++ Ly.txt m (28) = ((((((xs ++ [43]) ++ Ly.pad 2 (m.off.natAbs / 3600)) ++ [58]) ++ Ly.pad 2 (m.off.natAbs / 60 % 60)) ++ [58]) ++ Ly.pad 2 (m.off.natAbs % 60)) := (by show xs ++ (if m.off = 0 then [90] else Ly.zn m.off true true true) = _; rw [if_neg (by have := Hc.out; omega)]; unfold Ly.zn; rw [if_neg (by have := Hc.out; omega)] <;> simp); rw [ht]; exact Hb6.out) Hg6.out

set_option maxRecDepth 100000 in
set_option maxHeartbeats 4000000 in
theorem sw_29_neg {B p : Nat} {v : Value} {l Z : ByteArray} {off A D y mo d yd h mi s : Int} {v18 v20 v92 : Value} {xs : List UInt8} {a : Act} {w : World} {m : Ly.Mo} (Q : Exit → Act → World → Prop) (hm : m.Ok) (ha : Af v l p Z off A D y mo d yd h mi s v18 (.int .i64 (29)) v20 v92 a) (hb : BR B v xs w) (hx : xs.length ≤ 890000) (hB : B ≤ w.heap.size) (ho : off = m.off) (hc : m.off < 0)
    (hQ : ∀ v' a' w' u18 u19 u20 u92, Af v' l p Z off A D y mo d yd h mi s u18 u19 u20 u92 a' → BR B v' (xs ++ Ly.txt m (29)) w' → Gw v w v' w' → Q .normal a' w') : Code.wp Tryz.prog afSw Q a w := by
  obtain ⟨f, rfl⟩ := ha
  have Hb := Lib.hid hb
  have Hm := Lib.hid hm
  have hx' := Lib.hid hx
  clear hb hm hx
  conv => arg 2; whnf
  have hbit : bits BinOp.and IntKind.i64 29 65535 = 29 := by decide
  have f0 : (off == 0) = true ∨ (off == 0) = false := by cases (off == 0) <;> simp
  have HO := Lib.hid ho
  have H60 := Lib.hid Hm.out.off60
  obtain ⟨zp, hzp⟩ : ∃ zp : Int, zp = ((m.off.natAbs / 60 : Nat) : Int) := ⟨_, rfl⟩
  have zp0 : 1 ≤ zp := by have := Hm.out.off60; omega
  have zp1 : zp ≤ 1440 := by have := Hm.out.off1; have := Hm.out.off; omega
  have ho0 : off < 0 := by omega
  have hq1 : off.tdiv 60 = -zp := by rw [tdiv_below (by omega)]; have := Hm.out.off60; omega
  have o1 : -86400 < off := by have := Hm.out.off1; omega
  have HX3 := Lib.hid (show -off.tmod 60 = ((m.off.natAbs % 60 : Nat) : Int) by rw [Int.tmod_eq_zero_of_dvd (Int.dvd_of_emod_eq_zero (show off % 60 = 0 by rw [ho]; exact Hm.out.off60))]; have := Hm.out.off60; omega)
  have HX1 := Lib.hid (show zp / 60 = ((m.off.natAbs / 3600 : Nat) : Int) by omega)
  have HX2 := Lib.hid (show zp % 60 = ((m.off.natAbs / 60 % 60 : Nat) : Int) by omega)
  have hn1 := Lib.hid (show m.off.natAbs / 3600 < 100 by have := Hm.out.off1; have := Hm.out.off; omega)
  have hn2 := Lib.hid (show m.off.natAbs / 60 % 60 < 100 by omega)
  have hn3 := Lib.hid (show m.off.natAbs % 60 < 100 by omega)
  have Hc := Lib.hid hc
  clear ho hc hzp
  replace f0 : (off == 0) = false := by rw [beq_eq_false_iff_ne]; omega
  have Hg0 := Lib.hid (Gw.refl v w)
  go_wp2_with (at_builtin; refine wpList_append_br rfl _ _ rfl rfl (Hb.out.alloc _) [45] ⟨w.heap.size, 0, none⟩ 1 1 rfl rfl cells_one (by have := hx'.out; simp only [List.length_cons, List.length_nil]; omega) (by simp only [World.alloc, Array.size_push]; omega) ?_)
  intro v1 w1 hb1 hg1
  have Hb1 := Lib.hid hb1
  have Hg1 := Lib.hid (Hg0.out.trans (((Gw.refl _ _).alloc _).trans hg1))
  have hB1 : B ≤ w1.heap.size := by have h1 := Hg1.out.1.size; omega
  clear hb1 hg1
  go_wp2_with fail
  go_at_call 157
  refine (aint 2 (m.off.natAbs / 3600) (zp / 60) HX1.out _ Hb1.out (.inl ⟨rfl, hn1.out⟩) (by have := hx'.out; simp only [List.length_append, List.length_cons, List.length_nil]; omega) hB1).mono ?_
  rintro r w2 ⟨v2, rfl, hb2, hg2⟩
  have Hb2 := Lib.hid (show BR B v2 ((xs ++ [45]) ++ Ly.pad 2 (m.off.natAbs / 3600)) w2 by first | exact hb2 | (rw [List.append_assoc]; exact hb2) | simpa using hb2)
  have Hg2 := Lib.hid (Hg1.out.trans (hg2))
  have hB2 : B ≤ w2.heap.size := by have h1 := Hg2.out.1.size; omega
  clear hb2 hg2
  have HL2 := Lib.hid (Ly.pad_length (k := 2) (a := m.off.natAbs / 3600) (by decide) hn1.out)
  go_wp2_with fail
  go_at_call 157
  refine (aint 2 (m.off.natAbs / 60 % 60) (zp % 60) HX2.out _ Hb2.out (.inl ⟨rfl, hn2.out⟩) (by have := hx'.out; have := HL2.out; simp only [List.length_append, List.length_cons, List.length_nil]; omega) hB2).mono ?_
  rintro r w3 ⟨v3, rfl, hb3, hg3⟩
  have Hb3 := Lib.hid (show BR B v3 (((xs ++ [45]) ++ Ly.pad 2 (m.off.natAbs / 3600)) ++ Ly.pad 2 (m.off.natAbs / 60 % 60)) w3 by first | exact hb3 | (rw [List.append_assoc]; exact hb3) | simpa using hb3)
  have Hg3 := Lib.hid (Hg2.out.trans (hg3))
  have hB3 : B ≤ w3.heap.size := by have h1 := Hg3.out.1.size; omega
  clear hb3 hg3
  have HL3 := Lib.hid (Ly.pad_length (k := 2) (a := m.off.natAbs / 60 % 60) (by decide) hn2.out)
  go_wp2
  exact hQ _ _ _ _ _ _ _ (af_of rfl (by kernel_rfl)) (by have ht : xs ++ Ly.txt m (29) = (((xs ++ [45]) ++ Ly.pad 2 (m.off.natAbs / 3600)) ++ Ly.pad 2 (m.off.natAbs / 60 % 60)) := (by show xs ++ Ly.zn m.off false true false = _; unfold Ly.zn; rw [if_pos Hc.out] <;> simp); rw [ht]; exact Hb3.out) Hg3.out

set_option maxRecDepth 100000 in
set_option maxHeartbeats 4000000 in
theorem sw_29_pos {B p : Nat} {v : Value} {l Z : ByteArray} {off A D y mo d yd h mi s : Int} {v18 v20 v92 : Value} {xs : List UInt8} {a : Act} {w : World} {m : Ly.Mo} (Q : Exit → Act → World → Prop) (hm : m.Ok) (ha : Af v l p Z off A D y mo d yd h mi s v18 (.int .i64 (29)) v20 v92 a) (hb : BR B v xs w) (hx : xs.length ≤ 890000) (hB : B ≤ w.heap.size) (ho : off = m.off) (hc : 0 ≤ m.off)
    (hQ : ∀ v' a' w' u18 u19 u20 u92, Af v' l p Z off A D y mo d yd h mi s u18 u19 u20 u92 a' → BR B v' (xs ++ Ly.txt m (29)) w' → Gw v w v' w' → Q .normal a' w') : Code.wp Tryz.prog afSw Q a w := by
  obtain ⟨f, rfl⟩ := ha
  have Hb := Lib.hid hb
  have Hm := Lib.hid hm
  have hx' := Lib.hid hx
  clear hb hm hx
  conv => arg 2; whnf
  have hbit : bits BinOp.and IntKind.i64 29 65535 = 29 := by decide
  have f0 : (off == 0) = true ∨ (off == 0) = false := by cases (off == 0) <;> simp
  have HO := Lib.hid ho
  have H60 := Lib.hid Hm.out.off60
  obtain ⟨zp, hzp⟩ : ∃ zp : Int, zp = ((m.off.natAbs / 60 : Nat) : Int) := ⟨_, rfl⟩
  have zp0 : 0 ≤ zp := by have := Hm.out.off60; omega
  have zp1 : zp ≤ 1440 := by have := Hm.out.off1; have := Hm.out.off; omega
  have ho0 : 0 ≤ off := by omega
  have hq1 : off.tdiv 60 = zp := by rw [Int.tdiv_eq_ediv_of_nonneg (by omega)]; omega
  have hq2 : off / 60 = zp := by omega
  have o1 : off < 86400 := by have := Hm.out.off; omega
  have HX3 := Lib.hid (show off % 60 = ((m.off.natAbs % 60 : Nat) : Int) by omega)
  have HX1 := Lib.hid (show zp / 60 = ((m.off.natAbs / 3600 : Nat) : Int) by omega)
  have HX2 := Lib.hid (show zp % 60 = ((m.off.natAbs / 60 % 60 : Nat) : Int) by omega)
  have hn1 := Lib.hid (show m.off.natAbs / 3600 < 100 by have := Hm.out.off1; have := Hm.out.off; omega)
  have hn2 := Lib.hid (show m.off.natAbs / 60 % 60 < 100 by omega)
  have hn3 := Lib.hid (show m.off.natAbs % 60 < 100 by omega)
  have Hc := Lib.hid hc
  clear ho hc hzp
  rcases f0 with f0 | f0
  · skip
    have Hg0 := Lib.hid (Gw.refl v w)
    go_wp2_with (at_builtin; refine wpList_append_br rfl _ _ rfl rfl (Hb.out.alloc _) [43] ⟨w.heap.size, 0, none⟩ 1 1 rfl rfl cells_one (by have := hx'.out; simp only [List.length_cons, List.length_nil]; omega) (by simp only [World.alloc, Array.size_push]; omega) ?_)
    intro v1 w1 hb1 hg1
    have Hb1 := Lib.hid hb1
    have Hg1 := Lib.hid (Hg0.out.trans (((Gw.refl _ _).alloc _).trans hg1))
    have hB1 : B ≤ w1.heap.size := by have h1 := Hg1.out.1.size; omega
    clear hb1 hg1
    go_wp2_with fail
    go_at_call 157
    refine (aint 2 (m.off.natAbs / 3600) (zp / 60) HX1.out _ Hb1.out (.inl ⟨rfl, hn1.out⟩) (by have := hx'.out; simp only [List.length_append, List.length_cons, List.length_nil]; omega) hB1).mono ?_
    rintro r w2 ⟨v2, rfl, hb2, hg2⟩
    have Hb2 := Lib.hid (show BR B v2 ((xs ++ [43]) ++ Ly.pad 2 (m.off.natAbs / 3600)) w2 by first | exact hb2 | (rw [List.append_assoc]; exact hb2) | simpa using hb2)
    have Hg2 := Lib.hid (Hg1.out.trans (hg2))
    have hB2 : B ≤ w2.heap.size := by have h1 := Hg2.out.1.size; omega
    clear hb2 hg2
    have HL2 := Lib.hid (Ly.pad_length (k := 2) (a := m.off.natAbs / 3600) (by decide) hn1.out)
    go_wp2_with fail
    go_at_call 157
    refine (aint 2 (m.off.natAbs / 60 % 60) (zp % 60) HX2.out _ Hb2.out (.inl ⟨rfl, hn2.out⟩) (by have := hx'.out; have := HL2.out; simp only [List.length_append, List.length_cons, List.length_nil]; omega) hB2).mono ?_
    rintro r w3 ⟨v3, rfl, hb3, hg3⟩
    have Hb3 := Lib.hid (show BR B v3 (((xs ++ [43]) ++ Ly.pad 2 (m.off.natAbs / 3600)) ++ Ly.pad 2 (m.off.natAbs / 60 % 60)) w3 by first | exact hb3 | (rw [List.append_assoc]; exact hb3) | simpa using hb3)
    have Hg3 := Lib.hid (Hg2.out.trans (hg3))
    have hB3 : B ≤ w3.heap.size := by have h1 := Hg3.out.1.size; omega
    clear hb3 hg3
    have HL3 := Lib.hid (Ly.pad_length (k := 2) (a := m.off.natAbs / 60 % 60) (by decide) hn2.out)
    go_wp2
    exact hQ _ _ _ _ _ _ _ (af_of rfl (by kernel_rfl)) (by have ht : xs ++ Ly.txt m (29) = (((xs ++ [43]) ++ Ly.pad 2 (m.off.natAbs / 3600)) ++ Ly.pad 2 (m.off.natAbs / 60 % 60)) := (by show xs ++ Ly.zn m.off false true false = _; unfold Ly.zn; rw [if_neg (by have := Hc.out; omega)] <;> simp); rw [ht]; exact Hb3.out) Hg3.out
  · skip
    have Hg0 := Lib.hid (Gw.refl v w)
    go_wp2_with (at_builtin; refine wpList_append_br rfl _ _ rfl rfl (Hb.out.alloc _) [43] ⟨w.heap.size, 0, none⟩ 1 1 rfl rfl cells_one (by have := hx'.out; simp only [List.length_cons, List.length_nil]; omega) (by simp only [World.alloc, Array.size_push]; omega) ?_)
    intro v1 w1 hb1 hg1
    have Hb1 := Lib.hid hb1
    have Hg1 := Lib.hid (Hg0.out.trans (((Gw.refl _ _).alloc _).trans hg1))
    have hB1 : B ≤ w1.heap.size := by have h1 := Hg1.out.1.size; omega
    clear hb1 hg1
    go_wp2_with fail
    go_at_call 157
    refine (aint 2 (m.off.natAbs / 3600) (zp / 60) HX1.out _ Hb1.out (.inl ⟨rfl, hn1.out⟩) (by have := hx'.out; simp only [List.length_append, List.length_cons, List.length_nil]; omega) hB1).mono ?_
    rintro r w2 ⟨v2, rfl, hb2, hg2⟩
    have Hb2 := Lib.hid (show BR B v2 ((xs ++ [43]) ++ Ly.pad 2 (m.off.natAbs / 3600)) w2 by first | exact hb2 | (rw [List.append_assoc]; exact hb2) | simpa using hb2)
    have Hg2 := Lib.hid (Hg1.out.trans (hg2))
    have hB2 : B ≤ w2.heap.size := by have h1 := Hg2.out.1.size; omega
    clear hb2 hg2
    have HL2 := Lib.hid (Ly.pad_length (k := 2) (a := m.off.natAbs / 3600) (by decide) hn1.out)
    go_wp2_with fail
    go_at_call 157
    refine (aint 2 (m.off.natAbs / 60 % 60) (zp % 60) HX2.out _ Hb2.out (.inl ⟨rfl, hn2.out⟩) (by have := hx'.out; have := HL2.out; simp only [List.length_append, List.length_cons, List.length_nil]; omega) hB2).mono ?_
    rintro r w3 ⟨v3, rfl, hb3, hg3⟩
    have Hb3 := Lib.hid (show BR B v3 (((xs ++ [43]) ++ Ly.pad 2 (m.off.natAbs / 3600)) ++ Ly.pad 2 (m.off.natAbs / 60 % 60)) w3 by first | exact hb3 | (rw [List.append_assoc]; exact hb3) | simpa using hb3)
    have Hg3 := Lib.hid (Hg2.out.trans (hg3))
    have hB3 : B ≤ w3.heap.size := by have h1 := Hg3.out.1.size; omega
    clear hb3 hg3
    have HL3 := Lib.hid (Ly.pad_length (k := 2) (a := m.off.natAbs / 60 % 60) (by decide) hn2.out)
    go_wp2
    exact hQ _ _ _ _ _ _ _ (af_of rfl (by kernel_rfl)) (by have ht : xs ++ Ly.txt m (29) = (((xs ++ [43]) ++ Ly.pad 2 (m.off.natAbs / 3600)) ++ Ly.pad 2 (m.off.natAbs / 60 % 60)) := (by show xs ++ Ly.zn m.off false true false = _; unfold Ly.zn; rw [if_neg (by have := Hc.out; omega)] <;> simp); rw [ht]; exact Hb3.out) Hg3.out

end Go.Proofs.YtchmhdmapknmfaaGreatDoor

/-
  appendFormat: parts of a layout (printed by gen_Ma.py): 30, 32.
-/
namespace Go.Proofs.YtchmhdmapknmfaaGreatDoor
open Go.RowKit

set_option maxRecDepth 100000 in
set_option maxHeartbeats 4000000 in
theorem sw_30_neg {B p : Nat} {v : Value} {l Z : ByteArray} {off A D y mo d yd h mi s : Int} {v18 v20 v92 : Value} {xs : List UInt8} {a : Act} {w : World} {m : Ly.Mo} (Q : Exit → Act → World → Prop) (hm : m.Ok) (ha : Af v l p Z off A D y mo d yd h mi s v18 (.int .i64 (30)) v20 v92 a) (hb : BR B v xs w) (hx : xs.length ≤ 890000) (hB : B ≤ w.heap.size) (ho : off = m.off) (hc : m.off < 0)
    (hQ : ∀ v' a' w' u18 u19 u20 u92, Af v' l p Z off A D y mo d yd h mi s u18 u19 u20 u92 a' → BR B v' (xs ++ Ly.txt m (30)) w' → Gw v w v' w' → Q .normal a' w') : Code.wp Tryz.prog afSw Q a w := by
  obtain ⟨f, rfl⟩ := ha
  have Hb := Lib.hid hb
  have Hm := Lib.hid hm
  have hx' := Lib.hid hx
  clear hb hm hx
  conv => arg 2; whnf
  have hbit : bits BinOp.and IntKind.i64 30 65535 = 30 := by decide
  have f0 : (off == 0) = true ∨ (off == 0) = false := by cases (off == 0) <;> simp
  have HO := Lib.hid ho
  have H60 := Lib.hid Hm.out.off60
  obtain ⟨zp, hzp⟩ : ∃ zp : Int, zp = ((m.off.natAbs / 60 : Nat) : Int) := ⟨_, rfl⟩
  have zp0 : 1 ≤ zp := by have := Hm.out.off60; omega
  have zp1 : zp ≤ 1440 := by have := Hm.out.off1; have := Hm.out.off; omega
  have ho0 : off < 0 := by omega
  have hq1 : off.tdiv 60 = -zp := by rw [tdiv_below (by omega)]; have := Hm.out.off60; omega
  have o1 : -86400 < off := by have := Hm.out.off1; omega
  have HX3 := Lib.hid (show -off.tmod 60 = ((m.off.natAbs % 60 : Nat) : Int) by rw [Int.tmod_eq_zero_of_dvd (Int.dvd_of_emod_eq_zero (show off % 60 = 0 by rw [ho]; exact Hm.out.off60))]; have := Hm.out.off60; omega)
  have HX1 := Lib.hid (show zp / 60 = ((m.off.natAbs / 3600 : Nat) : Int) by omega)
  have HX2 := Lib.hid (show zp % 60 = ((m.off.natAbs / 60 % 60 : Nat) : Int) by omega)
  have hn1 := Lib.hid (show m.off.natAbs / 3600 < 100 by have := Hm.out.off1; have := Hm.out.off; omega)
  have hn2 := Lib.hid (show m.off.natAbs / 60 % 60 < 100 by omega)
  have hn3 := Lib.hid (show m.off.natAbs % 60 < 100 by omega)
  have Hc := Lib.hid hc
  clear ho hc hzp
  replace f0 : (off == 0) = false := by rw [beq_eq_false_iff_ne]; omega
  have Hg0 := Lib.hid (Gw.refl v w)
  go_wp2_with (at_builtin; refine wpList_append_br rfl _ _ rfl rfl (Hb.out.alloc _) [45] ⟨w.heap.size, 0, none⟩ 1 1 rfl rfl cells_one (by have := hx'.out; simp only [List.length_cons, List.length_nil]; omega) (by simp only [World.alloc, Array.size_push]; omega) ?_)
  intro v1 w1 hb1 hg1
  have Hb1 := Lib.hid hb1
  have Hg1 := Lib.hid (Hg0.out.trans (((Gw.refl _ _).alloc _).trans hg1))
  have hB1 : B ≤ w1.heap.size := by have h1 := Hg1.out.1.size; omega
  clear hb1 hg1
  go_wp2_with fail
  go_at_call 157
  refine (aint 2 (m.off.natAbs / 3600) (zp / 60) HX1.out _ Hb1.out (.inl ⟨rfl, hn1.out⟩) (by have := hx'.out; simp only [List.length_append, List.length_cons, List.length_nil]; omega) hB1).mono ?_
  rintro r w2 ⟨v2, rfl, hb2, hg2⟩
  have Hb2 := Lib.hid (show BR B v2 ((xs ++ [45]) ++ Ly.pad 2 (m.off.natAbs / 3600)) w2 by first | exact hb2 | (rw [List.append_assoc]; exact hb2) | simpa using hb2)
  have Hg2 := Lib.hid (Hg1.out.trans (hg2))
  have hB2 : B ≤ w2.heap.size := by have h1 := Hg2.out.1.size; omega
  clear hb2 hg2
  have HL2 := Lib.hid (Ly.pad_length (k := 2) (a := m.off.natAbs / 3600) (by decide) hn1.out)
  go_wp2_with fail
  go_at_call 157
  refine (aint 2 (m.off.natAbs / 60 % 60) (zp % 60) HX2.out _ Hb2.out (.inl ⟨rfl, hn2.out⟩) (by have := hx'.out; have := HL2.out; simp only [List.length_append, List.length_cons, List.length_nil]; omega) hB2).mono ?_
  rintro r w3 ⟨v3, rfl, hb3, hg3⟩
  have Hb3 := Lib.hid (show BR B v3 (((xs ++ [45]) ++ Ly.pad 2 (m.off.natAbs / 3600)) ++ Ly.pad 2 (m.off.natAbs / 60 % 60)) w3 by first | exact hb3 | (rw [List.append_assoc]; exact hb3) | simpa using hb3)
  have Hg3 := Lib.hid (Hg2.out.trans (hg3))
  have hB3 : B ≤ w3.heap.size := by have h1 := Hg3.out.1.size; omega
  clear hb3 hg3
  have HL3 := Lib.hid (Ly.pad_length (k := 2) (a := m.off.natAbs / 60 % 60) (by decide) hn2.out)
  go_wp2_with fail
  go_at_call 157
  refine (aint 2 (m.off.natAbs % 60) (-off.tmod 60) HX3.out _ Hb3.out (.inl ⟨rfl, hn3.out⟩) (by have := hx'.out; have := HL2.out; have := HL3.out; simp only [List.length_append, List.length_cons, List.length_nil]; omega) hB3).mono ?_
  rintro r w4 ⟨v4, rfl, hb4, hg4⟩
  have Hb4 := Lib.hid (show BR B v4 ((((xs ++ [45]) ++ Ly.pad 2 (m.off.natAbs / 3600)) ++ Ly.pad 2 (m.off.natAbs / 60 % 60)) ++ Ly.pad 2 (m.off.natAbs % 60)) w4 by first | exact hb4 | (rw [List.append_assoc]; exact hb4) | simpa using hb4)
  have Hg4 := Lib.hid (Hg3.out.trans (hg4))
  have hB4 : B ≤ w4.heap.size := by have h1 := Hg4.out.1.size; omega
  clear hb4 hg4
  have HL4 := Lib.hid (Ly.pad_length (k := 2) (a := m.off.natAbs % 60) (by decide) hn3.out)
  go_wp2
  exact hQ _ _ _ _ _ _ _ (af_of rfl (by kernel_rfl)) (by have ht : xs ++ Ly.txt m (30) = ((((xs ++ [45]) ++ Ly.pad 2 (m.off.natAbs / 3600)) ++ Ly.pad 2 (m.off.natAbs / 60 % 60)) ++ Ly.pad 2 (m.off.natAbs % 60)) := (by show xs ++ Ly.zn m.off false true true = _; unfold Ly.zn; rw [if_pos Hc.out] <;> simp); rw [ht]; exact Hb4.out) Hg4.out

set_option maxRecDepth 100000 in
set_option maxHeartbeats 4000000 in
theorem sw_30_pos {B p : Nat} {v : Value} {l Z : ByteArray} {off A D y mo d yd h mi s : Int} {v18 v20 v92 : Value} {xs : List UInt8} {a : Act} {w : World} {m : Ly.Mo} (Q : Exit → Act → World → Prop) (hm : m.Ok) (ha : Af v l p Z off A D y mo d yd h mi s v18 (.int .i64 (30)) v20 v92 a) (hb : BR B v xs w) (hx : xs.length ≤ 890000) (hB : B ≤ w.heap.size) (ho : off = m.off) (hc : 0 ≤ m.off)
    (hQ : ∀ v' a' w' u18 u19 u20 u92, Af v' l p Z off A D y mo d yd h mi s u18 u19 u20 u92 a' → BR B v' (xs ++ Ly.txt m (30)) w' → Gw v w v' w' → Q .normal a' w') : Code.wp Tryz.prog afSw Q a w := by
  obtain ⟨f, rfl⟩ := ha
  have Hb := Lib.hid hb
  have Hm := Lib.hid hm
  have hx' := Lib.hid hx
  clear hb hm hx
  conv => arg 2; whnf
  have hbit : bits BinOp.and IntKind.i64 30 65535 = 30 := by decide
  have f0 : (off == 0) = true ∨ (off == 0) = false := by cases (off == 0) <;> simp
  have HO := Lib.hid ho
  have H60 := Lib.hid Hm.out.off60
  obtain ⟨zp, hzp⟩ : ∃ zp : Int, zp = ((m.off.natAbs / 60 : Nat) : Int) := ⟨_, rfl⟩
  have zp0 : 0 ≤ zp := by have := Hm.out.off60; omega
  have zp1 : zp ≤ 1440 := by have := Hm.out.off1; have := Hm.out.off; omega
  have ho0 : 0 ≤ off := by omega
  have hq1 : off.tdiv 60 = zp := by rw [Int.tdiv_eq_ediv_of_nonneg (by omega)]; omega
  have hq2 : off / 60 = zp := by omega
  have o1 : off < 86400 := by have := Hm.out.off; omega
  have HX3 := Lib.hid (show off % 60 = ((m.off.natAbs % 60 : Nat) : Int) by omega)
  have HX1 := Lib.hid (show zp / 60 = ((m.off.natAbs / 3600 : Nat) : Int) by omega)
  have HX2 := Lib.hid (show zp % 60 = ((m.off.natAbs / 60 % 60 : Nat) : Int) by omega)
  have hn1 := Lib.hid (show m.off.natAbs / 3600 < 100 by have := Hm.out.off1; have := Hm.out.off; omega)
  have hn2 := Lib.hid (show m.off.natAbs / 60 % 60 < 100 by omega)
  have hn3 := Lib.hid (show m.off.natAbs % 60 < 100 by omega)
  have Hc := Lib.hid hc
  clear ho hc hzp
  rcases f0 with f0 | f0
  · skip
    have Hg0 := Lib.hid (Gw.refl v w)
    go_wp2_with (at_builtin; refine wpList_append_br rfl _ _ rfl rfl (Hb.out.alloc _) [43] ⟨w.heap.size, 0, none⟩ 1 1 rfl rfl cells_one (by have := hx'.out; simp only [List.length_cons, List.length_nil]; omega) (by simp only [World.alloc, Array.size_push]; omega) ?_)
    intro v1 w1 hb1 hg1
    have Hb1 := Lib.hid hb1
    have Hg1 := Lib.hid (Hg0.out.trans (((Gw.refl _ _).alloc _).trans hg1))
    have hB1 : B ≤ w1.heap.size := by have h1 := Hg1.out.1.size; omega
    clear hb1 hg1
    go_wp2_with fail
    go_at_call 157
    refine (aint 2 (m.off.natAbs / 3600) (zp / 60) HX1.out _ Hb1.out (.inl ⟨rfl, hn1.out⟩) (by have := hx'.out; simp only [List.length_append, List.length_cons, List.length_nil]; omega) hB1).mono ?_
    rintro r w2 ⟨v2, rfl, hb2, hg2⟩
    have Hb2 := Lib.hid (show BR B v2 ((xs ++ [43]) ++ Ly.pad 2 (m.off.natAbs / 3600)) w2 by first | exact hb2 | (rw [List.append_assoc]; exact hb2) | simpa using hb2)
    have Hg2 := Lib.hid (Hg1.out.trans (hg2))
    have hB2 : B ≤ w2.heap.size := by have h1 := Hg2.out.1.size; omega
    clear hb2 hg2
    have HL2 := Lib.hid (Ly.pad_length (k := 2) (a := m.off.natAbs / 3600) (by decide) hn1.out)
    go_wp2_with fail
    go_at_call 157
    refine (aint 2 (m.off.natAbs / 60 % 60) (zp % 60) HX2.out _ Hb2.out (.inl ⟨rfl, hn2.out⟩) (by have := hx'.out; have := HL2.out; simp only [List.length_append, List.length_cons, List.length_nil]; omega) hB2).mono ?_
    rintro r w3 ⟨v3, rfl, hb3, hg3⟩
    have Hb3 := Lib.hid (show BR B v3 (((xs ++ [43]) ++ Ly.pad 2 (m.off.natAbs / 3600)) ++ Ly.pad 2 (m.off.natAbs / 60 % 60)) w3 by first | exact hb3 | (rw [List.append_assoc]; exact hb3) | simpa using hb3)
    have Hg3 := Lib.hid (Hg2.out.trans (hg3))
    have hB3 : B ≤ w3.heap.size := by have h1 := Hg3.out.1.size; omega
    clear hb3 hg3
    have HL3 := Lib.hid (Ly.pad_length (k := 2) (a := m.off.natAbs / 60 % 60) (by decide) hn2.out)
    go_wp2_with fail
    go_at_call 157
    refine (aint 2 (m.off.natAbs % 60) (off % 60) HX3.out _ Hb3.out (.inl ⟨rfl, hn3.out⟩) (by have := hx'.out; have := HL2.out; have := HL3.out; simp only [List.length_append, List.length_cons, List.length_nil]; omega) hB3).mono ?_
    rintro r w4 ⟨v4, rfl, hb4, hg4⟩
    have Hb4 := Lib.hid (show BR B v4 ((((xs ++ [43]) ++ Ly.pad 2 (m.off.natAbs / 3600)) ++ Ly.pad 2 (m.off.natAbs / 60 % 60)) ++ Ly.pad 2 (m.off.natAbs % 60)) w4 by first | exact hb4 | (rw [List.append_assoc]; exact hb4) | simpa using hb4)
    have Hg4 := Lib.hid (Hg3.out.trans (hg4))
    have hB4 : B ≤ w4.heap.size := by have h1 := Hg4.out.1.size; omega
    clear hb4 hg4
    have HL4 := Lib.hid (Ly.pad_length (k := 2) (a := m.off.natAbs % 60) (by decide) hn3.out)
    go_wp2
    exact hQ _ _ _ _ _ _ _ (af_of rfl (by kernel_rfl)) (by have ht : xs ++ Ly.txt m (30) = ((((xs ++ [43]) ++ Ly.pad 2 (m.off.natAbs / 3600)) ++ Ly.pad 2 (m.off.natAbs / 60 % 60)) ++ Ly.pad 2 (m.off.natAbs % 60)) := (by show xs ++ Ly.zn m.off false true true = _; unfold Ly.zn; rw [if_neg (by have := Hc.out; omega)] <;> simp); rw [ht]; exact Hb4.out) Hg4.out
  · skip
    have Hg0 := Lib.hid (Gw.refl v w)
    go_wp2_with (at_builtin; refine wpList_append_br rfl _ _ rfl rfl (Hb.out.alloc _) [43] ⟨w.heap.size, 0, none⟩ 1 1 rfl rfl cells_one (by have := hx'.out; simp only [List.length_cons, List.length_nil]; omega) (by simp only [World.alloc, Array.size_push]; omega) ?_)
    intro v1 w1 hb1 hg1
    have Hb1 := Lib.hid hb1
    have Hg1 := Lib.hid (Hg0.out.trans (((Gw.refl _ _).alloc _).trans hg1))
    have hB1 : B ≤ w1.heap.size := by have h1 := Hg1.out.1.size; omega
    clear hb1 hg1
    go_wp2_with fail
    go_at_call 157
    refine (aint 2 (m.off.natAbs / 3600) (zp / 60) HX1.out _ Hb1.out (.inl ⟨rfl, hn1.out⟩) (by have := hx'.out; simp only [List.length_append, List.length_cons, List.length_nil]; omega) hB1).mono ?_
    rintro r w2 ⟨v2, rfl, hb2, hg2⟩
    have Hb2 := Lib.hid (show BR B v2 ((xs ++ [43]) ++ Ly.pad 2 (m.off.natAbs / 3600)) w2 by first | exact hb2 | (rw [List.append_assoc]; exact hb2) | simpa using hb2)
    have Hg2 := Lib.hid (Hg1.out.trans (hg2))
    have hB2 : B ≤ w2.heap.size := by have h1 := Hg2.out.1.size; omega
    clear hb2 hg2
    have HL2 := Lib.hid (Ly.pad_length (k := 2) (a := m.off.natAbs / 3600) (by decide) hn1.out)
    go_wp2_with fail
    go_at_call 157
    refine (aint 2 (m.off.natAbs / 60 % 60) (zp % 60) HX2.out _ Hb2.out (.inl ⟨rfl, hn2.out⟩) (by have := hx'.out; have := HL2.out; simp only [List.length_append, List.length_cons, List.length_nil]; omega) hB2).mono ?_
    rintro r w3 ⟨v3, rfl, hb3, hg3⟩
    have Hb3 := Lib.hid (show BR B v3 (((xs ++ [43]) ++ Ly.pad 2 (m.off.natAbs / 3600)) ++ Ly.pad 2 (m.off.natAbs / 60 % 60)) w3 by first | exact hb3 | (rw [List.append_assoc]; exact hb3) | simpa using hb3)
    have Hg3 := Lib.hid (Hg2.out.trans (hg3))
    have hB3 : B ≤ w3.heap.size := by have h1 := Hg3.out.1.size; omega
    clear hb3 hg3
    have HL3 := Lib.hid (Ly.pad_length (k := 2) (a := m.off.natAbs / 60 % 60) (by decide) hn2.out)
    go_wp2_with fail
    go_at_call 157
    refine (aint 2 (m.off.natAbs % 60) (off % 60) HX3.out _ Hb3.out (.inl ⟨rfl, hn3.out⟩) (by have := hx'.out; have := HL2.out; have := HL3.out; simp only [List.length_append, List.length_cons, List.length_nil]; omega) hB3).mono ?_
    rintro r w4 ⟨v4, rfl, hb4, hg4⟩
    have Hb4 := Lib.hid (show BR B v4 ((((xs ++ [43]) ++ Ly.pad 2 (m.off.natAbs / 3600)) ++ Ly.pad 2 (m.off.natAbs / 60 % 60)) ++ Ly.pad 2 (m.off.natAbs % 60)) w4 by first | exact hb4 | (rw [List.append_assoc]; exact hb4) | simpa using hb4)
    have Hg4 := Lib.hid (Hg3.out.trans (hg4))
    have hB4 : B ≤ w4.heap.size := by have h1 := Hg4.out.1.size; omega
    clear hb4 hg4
    have HL4 := Lib.hid (Ly.pad_length (k := 2) (a := m.off.natAbs % 60) (by decide) hn3.out)
    go_wp2
    exact hQ _ _ _ _ _ _ _ (af_of rfl (by kernel_rfl)) (by have ht : xs ++ Ly.txt m (30) = ((((xs ++ [43]) ++ Ly.pad 2 (m.off.natAbs / 3600)) ++ Ly.pad 2 (m.off.natAbs / 60 % 60)) ++ Ly.pad 2 (m.off.natAbs % 60)) := (by show xs ++ Ly.zn m.off false true true = _; unfold Ly.zn; rw [if_neg (by have := Hc.out; omega)] <;> simp); rw [ht]; exact Hb4.out) Hg4.out

set_option maxRecDepth 100000 in
set_option maxHeartbeats 4000000 in
theorem sw_32_neg {B p : Nat} {v : Value} {l Z : ByteArray} {off A D y mo d yd h mi s : Int} {v18 v20 v92 : Value} {xs : List UInt8} {a : Act} {w : World} {m : Ly.Mo} (Q : Exit → Act → World → Prop) (hm : m.Ok) (ha : Af v l p Z off A D y mo d yd h mi s v18 (.int .i64 (32)) v20 v92 a) (hb : BR B v xs w) (hx : xs.length ≤ 890000) (hB : B ≤ w.heap.size) (ho : off = m.off) (hc : m.off < 0)
    (hQ : ∀ v' a' w' u18 u19 u20 u92, Af v' l p Z off A D y mo d yd h mi s u18 u19 u20 u92 a' → BR B v' (xs ++ Ly.txt m (32)) w' → Gw v w v' w' → Q .normal a' w') : Code.wp Tryz.prog afSw Q a w := by
  obtain ⟨f, rfl⟩ := ha
  have Hb := Lib.hid hb
  have Hm := Lib.hid hm
  have hx' := Lib.hid hx
  clear hb hm hx
  conv => arg 2; whnf
  have hbit : bits BinOp.and IntKind.i64 32 65535 = 32 := by decide
  have f0 : (off == 0) = true ∨ (off == 0) = false := by cases (off == 0) <;> simp
  have HO := Lib.hid ho
  have H60 := Lib.hid Hm.out.off60
  obtain ⟨zp, hzp⟩ : ∃ zp : Int, zp = ((m.off.natAbs / 60 : Nat) : Int) := ⟨_, rfl⟩
  have zp0 : 1 ≤ zp := by have := Hm.out.off60; omega
  have zp1 : zp ≤ 1440 := by have := Hm.out.off1; have := Hm.out.off; omega
  have ho0 : off < 0 := by omega
  have hq1 : off.tdiv 60 = -zp := by rw [tdiv_below (by omega)]; have := Hm.out.off60; omega
  have o1 : -86400 < off := by have := Hm.out.off1; omega
  have HX3 := Lib.hid (show -off.tmod 60 = ((m.off.natAbs % 60 : Nat) : Int) by rw [Int.tmod_eq_zero_of_dvd (Int.dvd_of_emod_eq_zero (show off % 60 = 0 by rw [ho]; exact Hm.out.off60))]; have := Hm.out.off60; omega)
  have HX1 := Lib.hid (show zp / 60 = ((m.off.natAbs / 3600 : Nat) : Int) by omega)
  have HX2 := Lib.hid (show zp % 60 = ((m.off.natAbs / 60 % 60 : Nat) : Int) by omega)
  have hn1 := Lib.hid (show m.off.natAbs / 3600 < 100 by have := Hm.out.off1; have := Hm.out.off; omega)
  have hn2 := Lib.hid (show m.off.natAbs / 60 % 60 < 100 by omega)
  have hn3 := Lib.hid (show m.off.natAbs % 60 < 100 by omega)
  have Hc := Lib.hid hc
  clear ho hc hzp
  replace f0 : (off == 0) = false := by rw [beq_eq_false_iff_ne]; omega
  have Hg0 := Lib.hid (Gw.refl v w)
  go_wp2_with (at_builtin; refine wpList_append_br rfl _ _ rfl rfl (Hb.out.alloc _) [45] ⟨w.heap.size, 0, none⟩ 1 1 rfl rfl cells_one (by have := hx'.out; simp only [List.length_cons, List.length_nil]; omega) (by simp only [World.alloc, Array.size_push]; omega) ?_)
  intro v1 w1 hb1 hg1
  have Hb1 := Lib.hid hb1
  have Hg1 := Lib.hid (Hg0.out.trans (((Gw.refl _ _).alloc _).trans hg1))
  have hB1 : B ≤ w1.heap.size := by have h1 := Hg1.out.1.size; omega
  clear hb1 hg1
  go_wp2_with fail
  go_at_call 157
  refine (aint 2 (m.off.natAbs / 3600) (zp / 60) HX1.out _ Hb1.out (.inl ⟨rfl, hn1.out⟩) (by have := hx'.out; simp only [List.length_append, List.length_cons, List.length_nil]; omega) hB1).mono ?_
  rintro r w2 ⟨v2, rfl, hb2, hg2⟩
  have Hb2 := Lib.hid (show BR B v2 ((xs ++ [45]) ++ Ly.pad 2 (m.off.natAbs / 3600)) w2 by first | exact hb2 | (rw [List.append_assoc]; exact hb2) | simpa using hb2)
  have Hg2 := Lib.hid (Hg1.out.trans (hg2))
  have hB2 : B ≤ w2.heap.size := by have h1 := Hg2.out.1.size; omega
  clear hb2 hg2
  have HL2 := Lib.hid (Ly.pad_length (k := 2) (a := m.off.natAbs / 3600) (by decide) hn1.out)
  go_wp2_with (at_builtin; refine wpList_append_br rfl _ _ rfl rfl (Hb2.out.alloc _) [58] ⟨w2.heap.size, 0, none⟩ 1 1 rfl rfl cells_one (by have := hx'.out; have := HL2.out; simp only [List.length_append, List.length_cons, List.length_nil]; omega) (by simp only [World.alloc, Array.size_push]; omega) ?_)
  intro v3 w3 hb3 hg3
  have Hb3 := Lib.hid (show BR B v3 (((xs ++ [45]) ++ Ly.pad 2 (m.off.natAbs / 3600)) ++ [58]) w3 by first | exact hb3 | (rw [List.append_assoc]; exact hb3) | simpa using hb3)
  have Hg3 := Lib.hid (Hg2.out.trans (((Gw.refl _ _).alloc _).trans hg3))
  have hB3 : B ≤ w3.heap.size := by have h1 := Hg3.out.1.size; omega
  clear hb3 hg3
  go_wp2_with fail
  go_at_call 157
  refine (aint 2 (m.off.natAbs / 60 % 60) (zp % 60) HX2.out _ Hb3.out (.inl ⟨rfl, hn2.out⟩) (by have := hx'.out; have := HL2.out; simp only [List.length_append, List.length_cons, List.length_nil]; omega) hB3).mono ?_
  rintro r w4 ⟨v4, rfl, hb4, hg4⟩
  have Hb4 := Lib.hid (show BR B v4 ((((xs ++ [45]) ++ Ly.pad 2 (m.off.natAbs / 3600)) ++ [58]) ++ Ly.pad 2 (m.off.natAbs / 60 % 60)) w4 by first | exact hb4 | (rw [List.append_assoc]; exact hb4) | simpa using hb4)
  have Hg4 := Lib.hid (Hg3.out.trans (hg4))
  have hB4 : B ≤ w4.heap.size := by have h1 := Hg4.out.1.size; omega
  clear hb4 hg4
  have HL4 := Lib.hid (Ly.pad_length (k := 2) (a := m.off.natAbs / 60 % 60) (by decide) hn2.out)
  go_wp2
  exact hQ _ _ _ _ _ _ _ (af_of rfl (by kernel_rfl)) (by have ht : xs ++ Ly.txt m (32) = ((((xs ++ [45]) ++ Ly.pad 2 (m.off.natAbs / 3600)) ++ [58]) ++ Ly.pad 2 (m.off.natAbs / 60 % 60)) := (by show xs ++ Ly.zn m.off true true false = _; unfold Ly.zn; rw [if_pos Hc.out] <;> simp); rw [ht]; exact Hb4.out) Hg4.out

set_option maxRecDepth 100000 in
set_option maxHeartbeats 4000000 in
theorem sw_32_pos {B p : Nat} {v : Value} {l Z : ByteArray} {off A D y mo d yd h mi s : Int} {v18 v20 v92 : Value} {xs : List UInt8} {a : Act} {w : World} {m : Ly.Mo} (Q : Exit → Act → World → Prop) (hm : m.Ok) (ha : Af v l p Z off A D y mo d yd h mi s v18 (.int .i64 (32)) v20 v92 a) (hb : BR B v xs w) (hx : xs.length ≤ 890000) (hB : B ≤ w.heap.size) (ho : off = m.off) (hc : 0 ≤ m.off)
    (hQ : ∀ v' a' w' u18 u19 u20 u92, Af v' l p Z off A D y mo d yd h mi s u18 u19 u20 u92 a' → BR B v' (xs ++ Ly.txt m (32)) w' → Gw v w v' w' → Q .normal a' w') : Code.wp Tryz.prog afSw Q a w := by
  obtain ⟨f, rfl⟩ := ha
  have Hb := Lib.hid hb
  have Hm := Lib.hid hm
  have hx' := Lib.hid hx
  clear hb hm hx
  conv => arg 2; whnf
  have hbit : bits BinOp.and IntKind.i64 32 65535 = 32 := by decide
  have f0 : (off == 0) = true ∨ (off == 0) = false := by cases (off == 0) <;> simp
  have HO := Lib.hid ho
  have H60 := Lib.hid Hm.out.off60
  obtain ⟨zp, hzp⟩ : ∃ zp : Int, zp = ((m.off.natAbs / 60 : Nat) : Int) := ⟨_, rfl⟩
  have zp0 : 0 ≤ zp := by have := Hm.out.off60; omega
  have zp1 : zp ≤ 1440 := by have := Hm.out.off1; have := Hm.out.off; omega
  have ho0 : 0 ≤ off := by omega
  have hq1 : off.tdiv 60 = zp := by rw [Int.tdiv_eq_ediv_of_nonneg (by omega)]; omega
  have hq2 : off / 60 = zp := by omega
  have o1 : off < 86400 := by have := Hm.out.off; omega
  have HX3 := Lib.hid (show off % 60 = ((m.off.natAbs % 60 : Nat) : Int) by omega)
  have HX1 := Lib.hid (show zp / 60 = ((m.off.natAbs / 3600 : Nat) : Int) by omega)
  have HX2 := Lib.hid (show zp % 60 = ((m.off.natAbs / 60 % 60 : Nat) : Int) by omega)
  have hn1 := Lib.hid (show m.off.natAbs / 3600 < 100 by have := Hm.out.off1; have := Hm.out.off; omega)
  have hn2 := Lib.hid (show m.off.natAbs / 60 % 60 < 100 by omega)
  have hn3 := Lib.hid (show m.off.natAbs % 60 < 100 by omega)
  have Hc := Lib.hid hc
  clear ho hc hzp
  rcases f0 with f0 | f0
  · skip
    have Hg0 := Lib.hid (Gw.refl v w)
    go_wp2_with (at_builtin; refine wpList_append_br rfl _ _ rfl rfl (Hb.out.alloc _) [43] ⟨w.heap.size, 0, none⟩ 1 1 rfl rfl cells_one (by have := hx'.out; simp only [List.length_cons, List.length_nil]; omega) (by simp only [World.alloc, Array.size_push]; omega) ?_)
    intro v1 w1 hb1 hg1
    have Hb1 := Lib.hid hb1
    have Hg1 := Lib.hid (Hg0.out.trans (((Gw.refl _ _).alloc _).trans hg1))
    have hB1 : B ≤ w1.heap.size := by have h1 := Hg1.out.1.size; omega
    clear hb1 hg1
    go_wp2_with fail
    go_at_call 157
    refine (aint 2 (m.off.natAbs / 3600) (zp / 60) HX1.out _ Hb1.out (.inl ⟨rfl, hn1.out⟩) (by have := hx'.out; simp only [List.length_append, List.length_cons, List.length_nil]; omega) hB1).mono ?_
    rintro r w2 ⟨v2, rfl, hb2, hg2⟩
    have Hb2 := Lib.hid (show BR B v2 ((xs ++ [43]) ++ Ly.pad 2 (m.off.natAbs / 3600)) w2 by first | exact hb2 | (rw [List.append_assoc]; exact hb2) | simpa using hb2)
    have Hg2 := Lib.hid (Hg1.out.trans (hg2))
    have hB2 : B ≤ w2.heap.size := by have h1 := Hg2.out.1.size; omega
    clear hb2 hg2
    have HL2 := Lib.hid (Ly.pad_length (k := 2) (a := m.off.natAbs / 3600) (by decide) hn1.out)
    go_wp2_with (at_builtin; refine wpList_append_br rfl _ _ rfl rfl (Hb2.out.alloc _) [58] ⟨w2.heap.size, 0, none⟩ 1 1 rfl rfl cells_one (by have := hx'.out; have := HL2.out; simp only [List.length_append, List.length_cons, List.length_nil]; omega) (by simp only [World.alloc, Array.size_push]; omega) ?_)
    intro v3 w3 hb3 hg3
    have Hb3 := Lib.hid (show BR B v3 (((xs ++ [43]) ++ Ly.pad 2 (m.off.natAbs / 3600)) ++ [58]) w3 by first | exact hb3 | (rw [List.append_assoc]; exact hb3) | simpa using hb3)
    have Hg3 := Lib.hid (Hg2.out.trans (((Gw.refl _ _).alloc _).trans hg3))
    have hB3 : B ≤ w3.heap.size := by have h1 := Hg3.out.1.size; omega
    clear hb3 hg3
    go_wp2_with fail
    go_at_call 157
    refine (aint 2 (m.off.natAbs / 60 % 60) (zp % 60) HX2.out _ Hb3.out (.inl ⟨rfl, hn2.out⟩) (by have := hx'.out; have := HL2.out; simp only [List.length_append, List.length_cons, List.length_nil]; omega) hB3).mono ?_
    rintro r w4 ⟨v4, rfl, hb4, hg4⟩
    have Hb4 := Lib.hid (show BR B v4 ((((xs ++ [43]) ++ Ly.pad 2 (m.off.natAbs / 3600)) ++ [58]) ++ Ly.pad 2 (m.off.natAbs / 60 % 60)) w4 by first | exact hb4 | (rw [List.append_assoc]; exact hb4) | simpa using hb4)
    have Hg4 := Lib.hid (Hg3.out.trans (hg4))
    have hB4 : B ≤ w4.heap.size := by have h1 := Hg4.out.1.size; omega
    clear hb4 hg4
    have HL4 := Lib.hid (Ly.pad_length (k := 2) (a := m.off.natAbs / 60 % 60) (by decide) hn2.out)
    go_wp2
    exact hQ _ _ _ _ _ _ _ (af_of rfl (by kernel_rfl)) (by have ht : xs ++ Ly.txt m (32) = ((((xs ++ [43]) ++ Ly.pad 2 (m.off.natAbs / 3600)) ++ [58]) ++ Ly.pad 2 (m.off.natAbs / 60 % 60)) := (by show xs ++ Ly.zn m.off true true false = _; unfold Ly.zn; rw [if_neg (by have := Hc.out; omega)] <;> simp); rw [ht]; exact Hb4.out) Hg4.out
  · skip
    have Hg0 := Lib.hid (Gw.refl v w)
    go_wp2_with (at_builtin; refine wpList_append_br rfl _ _ rfl rfl (Hb.out.alloc _) [43] ⟨w.heap.size, 0, none⟩ 1 1 rfl rfl cells_one (by have := hx'.out; simp only [List.length_cons, List.length_nil]; omega) (by simp only [World.alloc, Array.size_push]; omega) ?_)
    intro v1 w1 hb1 hg1
    have Hb1 := Lib.hid hb1
    have Hg1 := Lib.hid (Hg0.out.trans (((Gw.refl _ _).alloc _).trans hg1))
    have hB1 : B ≤ w1.heap.size := by have h1 := Hg1.out.1.size; omega
    clear hb1 hg1
    go_wp2_with fail
    go_at_call 157
    refine (aint 2 (m.off.natAbs / 3600) (zp / 60) HX1.out _ Hb1.out (.inl ⟨rfl, hn1.out⟩) (by have := hx'.out; simp only [List.length_append, List.length_cons, List.length_nil]; omega) hB1).mono ?_
    rintro r w2 ⟨v2, rfl, hb2, hg2⟩
    have Hb2 := Lib.hid (show BR B v2 ((xs ++ [43]) ++ Ly.pad 2 (m.off.natAbs / 3600)) w2 by first | exact hb2 | (rw [List.append_assoc]; exact hb2) | simpa using hb2)
    have Hg2 := Lib.hid (Hg1.out.trans (hg2))
    have hB2 : B ≤ w2.heap.size := by have h1 := Hg2.out.1.size; omega
    clear hb2 hg2
    have HL2 := Lib.hid (Ly.pad_length (k := 2) (a := m.off.natAbs / 3600) (by decide) hn1.out)
    go_wp2_with (at_builtin; refine wpList_append_br rfl _ _ rfl rfl (Hb2.out.alloc _) [58] ⟨w2.heap.size, 0, none⟩ 1 1 rfl rfl cells_one (by have := hx'.out; have := HL2.out; simp only [List.length_append, List.length_cons, List.length_nil]; omega) (by simp only [World.alloc, Array.size_push]; omega) ?_)
    intro v3 w3 hb3 hg3
    have Hb3 := Lib.hid (show BR B v3 (((xs ++ [43]) ++ Ly.pad 2 (m.off.natAbs / 3600)) ++ [58]) w3 by first | exact hb3 | (rw [List.append_assoc]; exact hb3) | simpa using hb3)
    have Hg3 := Lib.hid (Hg2.out.trans (((Gw.refl _ _).alloc _).trans hg3))
    have hB3 : B ≤ w3.heap.size := by have h1 := Hg3.out.1.size; omega
    clear hb3 hg3
    go_wp2_with fail
    go_at_call 157
    refine (aint 2 (m.off.natAbs / 60 % 60) (zp % 60) HX2.out _ Hb3.out (.inl ⟨rfl, hn2.out⟩) (by have := hx'.out; have := HL2.out; simp only [List.length_append, List.length_cons, List.length_nil]; omega) hB3).mono ?_
    rintro r w4 ⟨v4, rfl, hb4, hg4⟩
    have Hb4 := Lib.hid (show BR B v4 ((((xs ++ [43]) ++ Ly.pad 2 (m.off.natAbs / 3600)) ++ [58]) ++ Ly.pad 2 (m.off.natAbs / 60 % 60)) w4 by first | exact hb4 | (rw [List.append_assoc]; exact hb4) | simpa using hb4)
    have Hg4 := Lib.hid (Hg3.out.trans (hg4))
    have hB4 : B ≤ w4.heap.size := by have h1 := Hg4.out.1.size; omega
    clear hb4 hg4
    have HL4 := Lib.hid (Ly.pad_length (k := 2) (a := m.off.natAbs / 60 % 60) (by decide) hn2.out)
    go_wp2
    exact hQ _ _ _ _ _ _ _ (af_of rfl (by kernel_rfl)) (by have ht : xs ++ Ly.txt m (32) = ((((xs ++ [43]) ++ Ly.pad 2 (m.off.natAbs / 3600)) ++ [58]) ++ Ly.pad 2 (m.off.natAbs / 60 % 60)) := (by show xs ++ Ly.zn m.off true true false = _; unfold Ly.zn; rw [if_neg (by have := Hc.out; omega)] <;> simp); rw [ht]; exact Hb4.out) Hg4.out

end Go.Proofs.YtchmhdmapknmfaaGreatDoor

/-
  appendFormat: parts of a layout (printed by gen_Ma.py): 33, 23.
-/
namespace Go.Proofs.YtchmhdmapknmfaaGreatDoor
open Go.RowKit

set_option maxRecDepth 100000 in
set_option maxHeartbeats 4000000 in
theorem sw_33_neg {B p : Nat} {v : Value} {l Z : ByteArray} {off A D y mo d yd h mi s : Int} {v18 v20 v92 : Value} {xs : List UInt8} {a : Act} {w : World} {m : Ly.Mo} (Q : Exit → Act → World → Prop) (hm : m.Ok) (ha : Af v l p Z off A D y mo d yd h mi s v18 (.int .i64 (33)) v20 v92 a) (hb : BR B v xs w) (hx : xs.length ≤ 890000) (hB : B ≤ w.heap.size) (ho : off = m.off) (hc : m.off < 0)
    (hQ : ∀ v' a' w' u18 u19 u20 u92, Af v' l p Z off A D y mo d yd h mi s u18 u19 u20 u92 a' → BR B v' (xs ++ Ly.txt m (33)) w' → Gw v w v' w' → Q .normal a' w') : Code.wp Tryz.prog afSw Q a w := by
  obtain ⟨f, rfl⟩ := ha
  have Hb := Lib.hid hb
  have Hm := Lib.hid hm
  have hx' := Lib.hid hx
  clear hb hm hx
  conv => arg 2; whnf
  have hbit : bits BinOp.and IntKind.i64 33 65535 = 33 := by decide
  have f0 : (off == 0) = true ∨ (off == 0) = false := by cases (off == 0) <;> simp
  have HO := Lib.hid ho
  have H60 := Lib.hid Hm.out.off60
  obtain ⟨zp, hzp⟩ : ∃ zp : Int, zp = ((m.off.natAbs / 60 : Nat) : Int) := ⟨_, rfl⟩
  have zp0 : 1 ≤ zp := by have := Hm.out.off60; omega
  have zp1 : zp ≤ 1440 := by have := Hm.out.off1; have := Hm.out.off; omega
  have ho0 : off < 0 := by omega
  have hq1 : off.tdiv 60 = -zp := by rw [tdiv_below (by omega)]; have := Hm.out.off60; omega
  have o1 : -86400 < off := by have := Hm.out.off1; omega
  have HX3 := Lib.hid (show -off.tmod 60 = ((m.off.natAbs % 60 : Nat) : Int) by rw [Int.tmod_eq_zero_of_dvd (Int.dvd_of_emod_eq_zero (show off % 60 = 0 by rw [ho]; exact Hm.out.off60))]; have := Hm.out.off60; omega)
  have HX1 := Lib.hid (show zp / 60 = ((m.off.natAbs / 3600 : Nat) : Int) by omega)
  have HX2 := Lib.hid (show zp % 60 = ((m.off.natAbs / 60 % 60 : Nat) : Int) by omega)
  have hn1 := Lib.hid (show m.off.natAbs / 3600 < 100 by have := Hm.out.off1; have := Hm.out.off; omega)
  have hn2 := Lib.hid (show m.off.natAbs / 60 % 60 < 100 by omega)
  have hn3 := Lib.hid (show m.off.natAbs % 60 < 100 by omega)
  have Hc := Lib.hid hc
  clear ho hc hzp
  replace f0 : (off == 0) = false := by rw [beq_eq_false_iff_ne]; omega
  have Hg0 := Lib.hid (Gw.refl v w)
  go_wp2_with (at_builtin; refine wpList_append_br rfl _ _ rfl rfl (Hb.out.alloc _) [45] ⟨w.heap.size, 0, none⟩ 1 1 rfl rfl cells_one (by have := hx'.out; simp only [List.length_cons, List.length_nil]; omega) (by simp only [World.alloc, Array.size_push]; omega) ?_)
  intro v1 w1 hb1 hg1
  have Hb1 := Lib.hid hb1
  have Hg1 := Lib.hid (Hg0.out.trans (((Gw.refl _ _).alloc _).trans hg1))
  have hB1 : B ≤ w1.heap.size := by have h1 := Hg1.out.1.size; omega
  clear hb1 hg1
  go_wp2_with fail
  go_at_call 157
  refine (aint 2 (m.off.natAbs / 3600) (zp / 60) HX1.out _ Hb1.out (.inl ⟨rfl, hn1.out⟩) (by have := hx'.out; simp only [List.length_append, List.length_cons, List.length_nil]; omega) hB1).mono ?_
  rintro r w2 ⟨v2, rfl, hb2, hg2⟩
  have Hb2 := Lib.hid (show BR B v2 ((xs ++ [45]) ++ Ly.pad 2 (m.off.natAbs / 3600)) w2 by first | exact hb2 | (rw [List.append_assoc]; exact hb2) | simpa using hb2)
  have Hg2 := Lib.hid (Hg1.out.trans (hg2))
  have hB2 : B ≤ w2.heap.size := by have h1 := Hg2.out.1.size; omega
  clear hb2 hg2
  have HL2 := Lib.hid (Ly.pad_length (k := 2) (a := m.off.natAbs / 3600) (by decide) hn1.out)
  go_wp2_with (at_builtin; refine wpList_append_br rfl _ _ rfl rfl (Hb2.out.alloc _) [58] ⟨w2.heap.size, 0, none⟩ 1 1 rfl rfl cells_one (by have := hx'.out; have := HL2.out; simp only [List.length_append, List.length_cons, List.length_nil]; omega) (by simp only [World.alloc, Array.size_push]; omega) ?_)
  intro v3 w3 hb3 hg3
  have Hb3 := Lib.hid (show BR B v3 (((xs ++ [45]) ++ Ly.pad 2 (m.off.natAbs / 3600)) ++ [58]) w3 by first | exact hb3 | (rw [List.append_assoc]; exact hb3) | simpa using hb3)
  have Hg3 := Lib.hid (Hg2.out.trans (((Gw.refl _ _).alloc _).trans hg3))
  have hB3 : B ≤ w3.heap.size := by have h1 := Hg3.out.1.size; omega
  clear hb3 hg3
  go_wp2_with fail
  go_at_call 157
  refine (aint 2 (m.off.natAbs / 60 % 60) (zp % 60) HX2.out _ Hb3.out (.inl ⟨rfl, hn2.out⟩) (by have := hx'.out; have := HL2.out; simp only [List.length_append, List.length_cons, List.length_nil]; omega) hB3).mono ?_
  rintro r w4 ⟨v4, rfl, hb4, hg4⟩
  have Hb4 := Lib.hid (show BR B v4 ((((xs ++ [45]) ++ Ly.pad 2 (m.off.natAbs / 3600)) ++ [58]) ++ Ly.pad 2 (m.off.natAbs / 60 % 60)) w4 by first | exact hb4 | (rw [List.append_assoc]; exact hb4) | simpa using hb4)
  have Hg4 := Lib.hid (Hg3.out.trans (hg4))
  have hB4 : B ≤ w4.heap.size := by have h1 := Hg4.out.1.size; omega
  clear hb4 hg4
  have HL4 := Lib.hid (Ly.pad_length (k := 2) (a := m.off.natAbs / 60 % 60) (by decide) hn2.out)
  go_wp2_with (at_builtin; refine wpList_append_br rfl _ _ rfl rfl (Hb4.out.alloc _) [58] ⟨w4.heap.size, 0, none⟩ 1 1 rfl rfl cells_one (by have := hx'.out; have := HL2.out; have := HL4.out; simp only [List.length_append, List.length_cons, List.length_nil]; omega) (by simp only [World.alloc, Array.size_push]; omega) ?_)
  intro v5 w5 hb5 hg5
  have Hb5 := Lib.hid (show BR B v5 (((((xs ++ [45]) ++ Ly.pad 2 (m.off.natAbs / 3600)) ++ [58]) ++ Ly.pad 2 (m.off.natAbs / 60 % 60)) ++ [58]) w5 by first | exact hb5 | (rw [List.append_assoc]; exact hb5) | simpa using hb5)
  have Hg5 := Lib.hid (Hg4.out.trans (((Gw.refl _ _).alloc _).trans hg5))
  have hB5 : B ≤ w5.heap.size := by have h1 := Hg5.out.1.size; omega
  clear hb5 hg5
  go_wp2_with fail
  go_at_call 157
  refine (aint 2 (m.off.natAbs % 60) (-off.tmod 60) HX3.out _ Hb5.out (.inl ⟨rfl, hn3.out⟩) (by have := hx'.out; have := HL2.out; have := HL4.out; simp only [List.length_append, List.length_cons, List.length_nil]; omega) hB5).mono ?_
  rintro r w6 ⟨v6, rfl, hb6, hg6⟩
  have Hb6 := Lib.hid (show BR B v6 ((((((xs ++ [45]) ++ Ly.pad 2 (m.off.natAbs / 3600)) ++ [58]) ++ Ly.pad 2 (m.off.natAbs / 60 % 60)) ++ [58]) ++ Ly.pad 2 (m.off.natAbs % 60)) w6 by first | exact hb6 | (rw [List.append_assoc]; exact hb6) | simpa using hb6)
  have Hg6 := Lib.hid (Hg5.out.trans (hg6))
  have hB6 : B ≤ w6.heap.size := by have h1 := Hg6.out.1.size; omega
  clear hb6 hg6
  have HL6 := Lib.hid (Ly.pad_length (k := 2) (a := m.off.natAbs % 60) (by decide) hn3.out)
  go_wp2
  exact hQ _ _ _ _ _ _ _ (af_of rfl (by kernel_rfl)) (by have ht : xs ++ Ly.txt m (33) = ((((((xs ++ [45]) ++ Ly.pad 2 (m.off.natAbs / 3600)) ++ [58]) ++ Ly.pad 2 (m.off.natAbs / 60 % 60)) ++ [58]) ++ Ly.pad 2 (m.off.natAbs % 60)) := (by show xs ++ Ly.zn m.off true true true = _; unfold Ly.zn; rw [if_pos Hc.out] <;> simp); rw [ht]; exact Hb6.out) Hg6.out

set_option maxRecDepth 100000 in
set_option maxHeartbeats 4000000 in
theorem sw_33_pos {B p : Nat} {v : Value} {l Z : ByteArray} {off A D y mo d yd h mi s : Int} {v18 v20 v92 : Value} {xs : List UInt8} {a : Act} {w : World} {m : Ly.Mo} (Q : Exit → Act → World → Prop) (hm : m.Ok) (ha : Af v l p Z off A D y mo d yd h mi s v18 (.int .i64 (33)) v20 v92 a) (hb : BR B v xs w) (hx : xs.length ≤ 890000) (hB : B ≤ w.heap.size) (ho : off = m.off) (hc : 0 ≤ m.off)
    (hQ : ∀ v' a' w' u18 u19 u20 u92, Af v' l p Z off A D y mo d yd h mi s u18 u19 u20 u92 a' → BR B v' (xs ++ Ly.txt m (33)) w' → Gw v w v' w' → Q .normal a' w') : Code.wp Tryz.prog afSw Q a w := by
  obtain ⟨f, rfl⟩ := ha
  have Hb := Lib.hid hb
  have Hm := Lib.hid hm
  have hx' := Lib.hid hx
  clear hb hm hx
  conv => arg 2; whnf
  have hbit : bits BinOp.and IntKind.i64 33 65535 = 33 := by decide
  have f0 : (off == 0) = true ∨ (off == 0) = false := by cases (off == 0) <;> simp
  have HO := Lib.hid ho
  have H60 := Lib.hid Hm.out.off60
  obtain ⟨zp, hzp⟩ : ∃ zp : Int, zp = ((m.off.natAbs / 60 : Nat) : Int) := ⟨_, rfl⟩
  have zp0 : 0 ≤ zp := by have := Hm.out.off60; omega
  have zp1 : zp ≤ 1440 := by have := Hm.out.off1; have := Hm.out.off; omega
  have ho0 : 0 ≤ off := by omega
  have hq1 : off.tdiv 60 = zp := by rw [Int.tdiv_eq_ediv_of_nonneg (by omega)]; omega
  have hq2 : off / 60 = zp := by omega
  have o1 : off < 86400 := by have := Hm.out.off; omega
  have HX3 := Lib.hid (show off % 60 = ((m.off.natAbs % 60 : Nat) : Int) by omega)
  have HX1 := Lib.hid (show zp / 60 = ((m.off.natAbs / 3600 : Nat) : Int) by omega)
  have HX2 := Lib.hid (show zp % 60 = ((m.off.natAbs / 60 % 60 : Nat) : Int) by omega)
  have hn1 := Lib.hid (show m.off.natAbs / 3600 < 100 by have := Hm.out.off1; have := Hm.out.off; omega)
  have hn2 := Lib.hid (show m.off.natAbs / 60 % 60 < 100 by omega)
  have hn3 := Lib.hid (show m.off.natAbs % 60 < 100 by omega)
  have Hc := Lib.hid hc
  clear ho hc hzp
  rcases f0 with f0 | f0
  · skip
    have Hg0 := Lib.hid (Gw.refl v w)
    go_wp2_with (at_builtin; refine wpList_append_br rfl _ _ rfl rfl (Hb.out.alloc _) [43] ⟨w.heap.size, 0, none⟩ 1 1 rfl rfl cells_one (by have := hx'.out; simp only [List.length_cons, List.length_nil]; omega) (by simp only [World.alloc, Array.size_push]; omega) ?_)
    intro v1 w1 hb1 hg1
    have Hb1 := Lib.hid hb1
    have Hg1 := Lib.hid (Hg0.out.trans (((Gw.refl _ _).alloc _).trans hg1))
    have hB1 : B ≤ w1.heap.size := by have h1 := Hg1.out.1.size; omega
    clear hb1 hg1
    go_wp2_with fail
    go_at_call 157
    refine (aint 2 (m.off.natAbs / 3600) (zp / 60) HX1.out _ Hb1.out (.inl ⟨rfl, hn1.out⟩) (by have := hx'.out; simp only [List.length_append, List.length_cons, List.length_nil]; omega) hB1).mono ?_
    rintro r w2 ⟨v2, rfl, hb2, hg2⟩
    have Hb2 := Lib.hid (show BR B v2 ((xs ++ [43]) ++ Ly.pad 2 (m.off.natAbs / 3600)) w2 by first | exact hb2 | (rw [List.append_assoc]; exact hb2) | simpa using hb2)
    have Hg2 := Lib.hid (Hg1.out.trans (hg2))
    have hB2 : B ≤ w2.heap.size := by have h1 := Hg2.out.1.size; omega
    clear hb2 hg2
    have HL2 := Lib.hid (Ly.pad_length (k := 2) (a := m.off.natAbs / 3600) (by decide) hn1.out)
    go_wp2_with (at_builtin; refine wpList_append_br rfl _ _ rfl rfl (Hb2.out.alloc _) [58] ⟨w2.heap.size, 0, none⟩ 1 1 rfl rfl cells_one (by have := hx'.out; have := HL2.out; simp only [List.length_append, List.length_cons, List.length_nil]; omega) (by simp only [World.alloc, Array.size_push]; omega) ?_)
    intro v3 w3 hb3 hg3
    have Hb3 := Lib.hid (show BR B v3 (((xs ++ [43]) ++ Ly.pad 2 (m.off.natAbs / 3600)) ++ [58]) w3 by first | exact hb3 | (rw [List.append_assoc]; exact hb3) | simpa using hb3)
    have Hg3 := Lib.hid (Hg2.out.trans (((Gw.refl _ _).alloc _).trans hg3))
    have hB3 : B ≤ w3.heap.size := by have h1 := Hg3.out.1.size; omega
    clear hb3 hg3
    go_wp2_with fail
    go_at_call 157
    refine (aint 2 (m.off.natAbs / 60 % 60) (zp % 60) HX2.out _ Hb3.out (.inl ⟨rfl, hn2.out⟩) (by have := hx'.out; have := HL2.out; simp only [List.length_append, List.length_cons, List.length_nil]; omega) hB3).mono ?_
    rintro r w4 ⟨v4, rfl, hb4, hg4⟩
    have Hb4 := Lib.hid (show BR B v4 ((((xs ++ [43]) ++ Ly.pad 2 (m.off.natAbs / 3600)) ++ [58]) ++ Ly.pad 2 (m.off.natAbs / 60 % 60)) w4 by first | exact hb4 | (rw [List.append_assoc]; exact hb4) | simpa using hb4)
    have Hg4 := Lib.hid (Hg3.out.trans (hg4))
    have hB4 : B ≤ w4.heap.size := by have h1 := Hg4.out.1.size; omega
    clear hb4 hg4
    have HL4 := Lib.hid (Ly.pad_length (k := 2) (a := m.off.natAbs / 60 % 60) (by decide) hn2.out)
    go_wp2_with (at_builtin; refine wpList_append_br rfl _ _ rfl rfl (Hb4.out.alloc _) [58] ⟨w4.heap.size, 0, none⟩ 1 1 rfl rfl cells_one (by have := hx'.out; have := HL2.out; have := HL4.out; simp only [List.length_append, List.length_cons, List.length_nil]; omega) (by simp only [World.alloc, Array.size_push]; omega) ?_)
    intro v5 w5 hb5 hg5
    have Hb5 := Lib.hid (show BR B v5 (((((xs ++ [43]) ++ Ly.pad 2 (m.off.natAbs / 3600)) ++ [58]) ++ Ly.pad 2 (m.off.natAbs / 60 % 60)) ++ [58]) w5 by first | exact hb5 | (rw [List.append_assoc]; exact hb5) | simpa using hb5)
    have Hg5 := Lib.hid (Hg4.out.trans (((Gw.refl _ _).alloc _).trans hg5))
    have hB5 : B ≤ w5.heap.size := by have h1 := Hg5.out.1.size; omega
    clear hb5 hg5
    go_wp2_with fail
    go_at_call 157
    refine (aint 2 (m.off.natAbs % 60) (off % 60) HX3.out _ Hb5.out (.inl ⟨rfl, hn3.out⟩) (by have := hx'.out; have := HL2.out; have := HL4.out; simp only [List.length_append, List.length_cons, List.length_nil]; omega) hB5).mono ?_
    rintro r w6 ⟨v6, rfl, hb6, hg6⟩
    have Hb6 := Lib.hid (show BR B v6 ((((((xs ++ [43]) ++ Ly.pad 2 (m.off.natAbs / 3600)) ++ [58]) ++ Ly.pad 2 (m.off.natAbs / 60 % 60)) ++ [58]) ++ Ly.pad 2 (m.off.natAbs % 60)) w6 by first | exact hb6 | (rw [List.append_assoc]; exact hb6) | simpa using hb6)
    have Hg6 := Lib.hid (Hg5.out.trans (hg6))
    have hB6 : B ≤ w6.heap.size := by have h1 := Hg6.out.1.size; omega
    clear hb6 hg6
    have HL6 := Lib.hid (Ly.pad_length (k := 2) (a := m.off.natAbs % 60) (by decide) hn3.out)
    go_wp2
    exact hQ _ _ _ _ _ _ _ (af_of rfl (by kernel_rfl)) (by have ht : xs ++ Ly.txt m (33) = ((((((xs ++ [43]) ++ Ly.pad 2 (m.off.natAbs / 3600)) ++ [58]) ++ Ly.pad 2 (m.off.natAbs / 60 % 60)) ++ [58]) ++ Ly.pad 2 (m.off.natAbs % 60)) := (by show xs ++ Ly.zn m.off true true true = _; unfold Ly.zn; rw [if_neg (by have := Hc.out; omega)] <;> simp); rw [ht]; exact Hb6.out) Hg6.out
  · skip
    have Hg0 := Lib.hid (Gw.refl v w)
    go_wp2_with (at_builtin; refine wpList_append_br rfl _ _ rfl rfl (Hb.out.alloc _) [43] ⟨w.heap.size, 0, none⟩ 1 1 rfl rfl cells_one (by have := hx'.out; simp only [List.length_cons, List.length_nil]; omega) (by simp only [World.alloc, Array.size_push]; omega) ?_)
    intro v1 w1 hb1 hg1
    have Hb1 := Lib.hid hb1
    have Hg1 := Lib.hid (Hg0.out.trans (((Gw.refl _ _).alloc _).trans hg1))
    have hB1 : B ≤ w1.heap.size := by have h1 := Hg1.out.1.size; omega
    clear hb1 hg1
    go_wp2_with fail
    go_at_call 157
    refine (aint 2 (m.off.natAbs / 3600) (zp / 60) HX1.out _ Hb1.out (.inl ⟨rfl, hn1.out⟩) (by have := hx'.out; simp only [List.length_append, List.length_cons, List.length_nil]; omega) hB1).mono ?_
    rintro r w2 ⟨v2, rfl, hb2, hg2⟩
    have Hb2 := Lib.hid (show BR B v2 ((xs ++ [43]) ++ Ly.pad 2 (m.off.natAbs / 3600)) w2 by first | exact hb2 | (rw [List.append_assoc]; exact hb2) | simpa using hb2)
    have Hg2 := Lib.hid (Hg1.out.trans (hg2))
    have hB2 : B ≤ w2.heap.size := by have h1 := Hg2.out.1.size; omega
    clear hb2 hg2
    have HL2 := Lib.hid (Ly.pad_length (k := 2) (a := m.off.natAbs / 3600) (by decide) hn1.out)
    go_wp2_with (at_builtin; refine wpList_append_br rfl _ _ rfl rfl (Hb2.out.alloc _) [58] ⟨w2.heap.size, 0, none⟩ 1 1 rfl rfl cells_one (by have := hx'.out; have := HL2.out; simp only [List.length_append, List.length_cons, List.length_nil]; omega) (by simp only [World.alloc, Array.size_push]; omega) ?_)
    intro v3 w3 hb3 hg3
    have Hb3 := Lib.hid (show BR B v3 (((xs ++ [43]) ++ Ly.pad 2 (m.off.natAbs / 3600)) ++ [58]) w3 by first | exact hb3 | (rw [List.append_assoc]; exact hb3) | simpa using hb3)
    have Hg3 := Lib.hid (Hg2.out.trans (((Gw.refl _ _).alloc _).trans hg3))
    have hB3 : B ≤ w3.heap.size := by have h1 := Hg3.out.1.size; omega
    clear hb3 hg3
    go_wp2_with fail
    go_at_call 157
    refine (aint 2 (m.off.natAbs / 60 % 60) (zp % 60) HX2.out _ Hb3.out (.inl ⟨rfl, hn2.out⟩) (by have := hx'.out; have := HL2.out; simp only [List.length_append, List.length_cons, List.length_nil]; omega) hB3).mono ?_
    rintro r w4 ⟨v4, rfl, hb4, hg4⟩
    have Hb4 := Lib.hid (show BR B v4 ((((xs ++ [43]) ++ Ly.pad 2 (m.off.natAbs / 3600)) ++ [58]) ++ Ly.pad 2 (m.off.natAbs / 60 % 60)) w4 by first | exact hb4 | (rw [List.append_assoc]; exact hb4) | simpa using hb4)
    have Hg4 := Lib.hid (Hg3.out.trans (hg4))
    have hB4 : B ≤ w4.heap.size := by have h1 := Hg4.out.1.size; omega
    clear hb4 hg4
    have HL4 := Lib.hid (Ly.pad_length (k := 2) (a := m.off.natAbs / 60 % 60) (by decide) hn2.out)
    go_wp2_with (at_builtin; refine wpList_append_br rfl _ _ rfl rfl (Hb4.out.alloc _) [58] ⟨w4.heap.size, 0, none⟩ 1 1 rfl rfl cells_one (by have := hx'.out; have := HL2.out; have := HL4.out; simp only [List.length_append, List.length_cons, List.length_nil]; omega) (by simp only [World.alloc, Array.size_push]; omega) ?_)
    intro v5 w5 hb5 hg5
    have Hb5 := Lib.hid (show BR B v5 (((((xs ++ [43]) ++ Ly.pad 2 (m.off.natAbs / 3600)) ++ [58]) ++ Ly.pad 2 (m.off.natAbs / 60 % 60)) ++ [58]) w5 by first | exact hb5 | (rw [List.append_assoc]; exact hb5) | simpa using hb5)
    have Hg5 := Lib.hid (Hg4.out.trans (((Gw.refl _ _).alloc _).trans hg5))
    have hB5 : B ≤ w5.heap.size := by have h1 := Hg5.out.1.size; omega
    clear hb5 hg5
    go_wp2_with fail
    go_at_call 157
    refine (aint 2 (m.off.natAbs % 60) (off % 60) HX3.out _ Hb5.out (.inl ⟨rfl, hn3.out⟩) (by have := hx'.out; have := HL2.out; have := HL4.out; simp only [List.length_append, List.length_cons, List.length_nil]; omega) hB5).mono ?_
    rintro r w6 ⟨v6, rfl, hb6, hg6⟩
    have Hb6 := Lib.hid (show BR B v6 ((((((xs ++ [43]) ++ Ly.pad 2 (m.off.natAbs / 3600)) ++ [58]) ++ Ly.pad 2 (m.off.natAbs / 60 % 60)) ++ [58]) ++ Ly.pad 2 (m.off.natAbs % 60)) w6 by first | exact hb6 | (rw [List.append_assoc]; exact hb6) | simpa using hb6)
    have Hg6 := Lib.hid (Hg5.out.trans (hg6))
    have hB6 : B ≤ w6.heap.size := by have h1 := Hg6.out.1.size; omega
    clear hb6 hg6
    have HL6 := Lib.hid (Ly.pad_length (k := 2) (a := m.off.natAbs % 60) (by decide) hn3.out)
    go_wp2
    exact hQ _ _ _ _ _ _ _ (af_of rfl (by kernel_rfl)) (by have ht : xs ++ Ly.txt m (33) = ((((((xs ++ [43]) ++ Ly.pad 2 (m.off.natAbs / 3600)) ++ [58]) ++ Ly.pad 2 (m.off.natAbs / 60 % 60)) ++ [58]) ++ Ly.pad 2 (m.off.natAbs % 60)) := (by show xs ++ Ly.zn m.off true true true = _; unfold Ly.zn; rw [if_neg (by have := Hc.out; omega)] <;> simp); rw [ht]; exact Hb6.out) Hg6.out

set_option maxRecDepth 100000 in
set_option maxHeartbeats 4000000 in
theorem sw_23_name {B p : Nat} {v : Value} {l Z : ByteArray} {off A D y mo d yd h mi s : Int} {v18 v20 v92 : Value} {xs : List UInt8} {a : Act} {w : World} {m : Ly.Mo} (Q : Exit → Act → World → Prop) (hm : m.Ok) (ha : Af v l p Z off A D y mo d yd h mi s v18 (.int .i64 (23)) v20 v92 a) (hb : BR B v xs w) (hx : xs.length ≤ 890000) (hB : B ≤ w.heap.size) (hz : m.zone = bts Z) (hne : 0 < Z.size)
    (hQ : ∀ v' a' w' u18 u19 u20 u92, Af v' l p Z off A D y mo d yd h mi s u18 u19 u20 u92 a' → BR B v' (xs ++ Ly.txt m (23)) w' → Gw v w v' w' → Q .normal a' w') : Code.wp Tryz.prog afSw Q a w := by
  obtain ⟨f, rfl⟩ := ha
  have Hb := Lib.hid hb
  have Hm := Lib.hid hm
  have hx' := Lib.hid hx
  clear hb hm hx
  conv => arg 2; whnf
  have hbit : bits BinOp.and IntKind.i64 23 65535 = 23 := by decide
  have fz : Z.toList.isEmpty = false := isEmpty_no hne
  have Hz := Lib.hid hz
  have Hne := Lib.hid hne
  have hsz := Lib.hid (show Z.size ≤ 200 by rw [← bts_length, ← hz]; exact Hm.out.zone)
  clear hz hne
  have Hg0 := Lib.hid (Gw.refl v w)
  go_wp2_with (at_builtin; refine wpList_append_br_str rfl _ _ rfl rfl Hb.out Z rfl (by have := hx'.out; have := hsz.out; omega) hB ?_)
  intro v1 w1 hb1 hg1
  have Hb1 := Lib.hid hb1
  have Hg1 := Lib.hid (Hg0.out.trans (hg1))
  have hB1 : B ≤ w1.heap.size := by have h1 := Hg1.out.1.size; omega
  clear hb1 hg1
  go_wp2
  exact hQ _ _ _ _ _ _ _ (af_of rfl (by kernel_rfl)) (by have ht : xs ++ Ly.txt m (23) = (xs ++ bts Z) := (by show xs ++ (if m.zone = [] then _ else m.zone) = _; rw [if_neg (by rw [Hz.out]; intro e; have h1 := congrArg List.length e; rw [bts_length, List.length_nil] at h1; have h2 := Hne.out; omega), Hz.out]); rw [ht]; exact Hb1.out) Hg1.out

set_option maxRecDepth 100000 in
set_option maxHeartbeats 4000000 in
theorem sw_23_neg {B p : Nat} {v : Value} {l Z : ByteArray} {off A D y mo d yd h mi s : Int} {v18 v20 v92 : Value} {xs : List UInt8} {a : Act} {w : World} {m : Ly.Mo} (Q : Exit → Act → World → Prop) (hm : m.Ok) (ha : Af v l p Z off A D y mo d yd h mi s v18 (.int .i64 (23)) v20 v92 a) (hb : BR B v xs w) (hx : xs.length ≤ 890000) (hB : B ≤ w.heap.size) (ho : off = m.off) (hz : m.zone = bts Z) (hne : Z.size = 0) (hc : m.off < 0)
    (hQ : ∀ v' a' w' u18 u19 u20 u92, Af v' l p Z off A D y mo d yd h mi s u18 u19 u20 u92 a' → BR B v' (xs ++ Ly.txt m (23)) w' → Gw v w v' w' → Q .normal a' w') : Code.wp Tryz.prog afSw Q a w := by
  obtain ⟨f, rfl⟩ := ha
  have Hb := Lib.hid hb
  have Hm := Lib.hid hm
  have hx' := Lib.hid hx
  clear hb hm hx
  conv => arg 2; whnf
  have hbit : bits BinOp.and IntKind.i64 23 65535 = 23 := by decide
  have fz : Z.toList.isEmpty = true := isEmpty_yes hne
  have Hz := Lib.hid (show m.zone = [] by rw [hz]; exact List.eq_nil_of_length_eq_zero (by rw [bts_length]; exact hne))
  have HO := Lib.hid ho
  have H60 := Lib.hid Hm.out.off60
  obtain ⟨zp, hzp⟩ : ∃ zp : Int, zp = ((m.off.natAbs / 60 : Nat) : Int) := ⟨_, rfl⟩
  have zp0 : 1 ≤ zp := by have := Hm.out.off60; omega
  have zp1 : zp ≤ 1440 := by have := Hm.out.off1; have := Hm.out.off; omega
  have ho0 : off < 0 := by omega
  have hq1 : off.tdiv 60 = -zp := by rw [tdiv_below (by omega)]; have := Hm.out.off60; omega
  have o1 : -86400 < off := by have := Hm.out.off1; omega
  have HX3 := Lib.hid (show -off.tmod 60 = ((m.off.natAbs % 60 : Nat) : Int) by rw [Int.tmod_eq_zero_of_dvd (Int.dvd_of_emod_eq_zero (show off % 60 = 0 by rw [ho]; exact Hm.out.off60))]; have := Hm.out.off60; omega)
  have HX1 := Lib.hid (show zp / 60 = ((m.off.natAbs / 3600 : Nat) : Int) by omega)
  have HX2 := Lib.hid (show zp % 60 = ((m.off.natAbs / 60 % 60 : Nat) : Int) by omega)
  have hn1 := Lib.hid (show m.off.natAbs / 3600 < 100 by have := Hm.out.off1; have := Hm.out.off; omega)
  have hn2 := Lib.hid (show m.off.natAbs / 60 % 60 < 100 by omega)
  have hn3 := Lib.hid (show m.off.natAbs % 60 < 100 by omega)
  have Hc := Lib.hid hc
  clear ho hc hzp hz hne
  have Hg0 := Lib.hid (Gw.refl v w)
  go_wp2_with (at_builtin; refine wpList_append_br rfl _ _ rfl rfl (Hb.out.alloc _) [45] ⟨w.heap.size, 0, none⟩ 1 1 rfl rfl cells_one (by have := hx'.out; simp only [List.length_cons, List.length_nil]; omega) (by simp only [World.alloc, Array.size_push]; omega) ?_)
  intro v1 w1 hb1 hg1
  have Hb1 := Lib.hid hb1
  have Hg1 := Lib.hid (Hg0.out.trans (((Gw.refl _ _).alloc _).trans hg1))
  have hB1 : B ≤ w1.heap.size := by have h1 := Hg1.out.1.size; omega
  clear hb1 hg1
  go_wp2_with fail
  go_at_call 157
  refine (aint 2 (m.off.natAbs / 3600) (zp / 60) HX1.out _ Hb1.out (.inl ⟨rfl, hn1.out⟩) (by have := hx'.out; simp only [List.length_append, List.length_cons, List.length_nil]; omega) hB1).mono ?_
  rintro r w2 ⟨v2, rfl, hb2, hg2⟩
  have Hb2 := Lib.hid (show BR B v2 ((xs ++ [45]) ++ Ly.pad 2 (m.off.natAbs / 3600)) w2 by first | exact hb2 | (rw [List.append_assoc]; exact hb2) | simpa using hb2)
  have Hg2 := Lib.hid (Hg1.out.trans (hg2))
  have hB2 : B ≤ w2.heap.size := by have h1 := Hg2.out.1.size; omega
  clear hb2 hg2
  have HL2 := Lib.hid (Ly.pad_length (k := 2) (a := m.off.natAbs / 3600) (by decide) hn1.out)
  go_wp2_with fail
  go_at_call 157
  refine (aint 2 (m.off.natAbs / 60 % 60) (zp % 60) HX2.out _ Hb2.out (.inl ⟨rfl, hn2.out⟩) (by have := hx'.out; have := HL2.out; simp only [List.length_append, List.length_cons, List.length_nil]; omega) hB2).mono ?_
  rintro r w3 ⟨v3, rfl, hb3, hg3⟩
  have Hb3 := Lib.hid (show BR B v3 (((xs ++ [45]) ++ Ly.pad 2 (m.off.natAbs / 3600)) ++ Ly.pad 2 (m.off.natAbs / 60 % 60)) w3 by first | exact hb3 | (rw [List.append_assoc]; exact hb3) | simpa using hb3)
  have Hg3 := Lib.hid (Hg2.out.trans (hg3))
  have hB3 : B ≤ w3.heap.size := by have h1 := Hg3.out.1.size; omega
  clear hb3 hg3
  have HL3 := Lib.hid (Ly.pad_length (k := 2) (a := m.off.natAbs / 60 % 60) (by decide) hn2.out)
  go_wp2
  exact hQ _ _ _ _ _ _ _ (af_of rfl (by kernel_rfl)) (by have ht : xs ++ Ly.txt m (23) = (((xs ++ [45]) ++ Ly.pad 2 (m.off.natAbs / 3600)) ++ Ly.pad 2 (m.off.natAbs / 60 % 60)) := (by show xs ++ (if m.zone = [] then Ly.zn m.off false true false else _) = _; rw [if_pos Hz.out]; unfold Ly.zn; rw [if_pos Hc.out] <;> simp); rw [ht]; exact Hb3.out) Hg3.out

set_option maxRecDepth 100000 in
set_option maxHeartbeats 4000000 in
theorem sw_23_pos {B p : Nat} {v : Value} {l Z : ByteArray} {off A D y mo d yd h mi s : Int} {v18 v20 v92 : Value} {xs : List UInt8} {a : Act} {w : World} {m : Ly.Mo} (Q : Exit → Act → World → Prop) (hm : m.Ok) (ha : Af v l p Z off A D y mo d yd h mi s v18 (.int .i64 (23)) v20 v92 a) (hb : BR B v xs w) (hx : xs.length ≤ 890000) (hB : B ≤ w.heap.size) (ho : off = m.off) (hz : m.zone = bts Z) (hne : Z.size = 0) (hc : 0 ≤ m.off)
    (hQ : ∀ v' a' w' u18 u19 u20 u92, Af v' l p Z off A D y mo d yd h mi s u18 u19 u20 u92 a' → BR B v' (xs ++ Ly.txt m (23)) w' → Gw v w v' w' → Q .normal a' w') : Code.wp Tryz.prog afSw Q a w := by
  obtain ⟨f, rfl⟩ := ha
  have Hb := Lib.hid hb
  have Hm := Lib.hid hm
  have hx' := Lib.hid hx
  clear hb hm hx
  conv => arg 2; whnf
  have hbit : bits BinOp.and IntKind.i64 23 65535 = 23 := by decide
  have fz : Z.toList.isEmpty = true := isEmpty_yes hne
  have Hz := Lib.hid (show m.zone = [] by rw [hz]; exact List.eq_nil_of_length_eq_zero (by rw [bts_length]; exact hne))
  have HO := Lib.hid ho
  have H60 := Lib.hid Hm.out.off60
  obtain ⟨zp, hzp⟩ : ∃ zp : Int, zp = ((m.off.natAbs / 60 : Nat) : Int) := ⟨_, rfl⟩
  have zp0 : 0 ≤ zp := by have := Hm.out.off60; omega
  have zp1 : zp ≤ 1440 := by have := Hm.out.off1; have := Hm.out.off; omega
  have ho0 : 0 ≤ off := by omega
  have hq1 : off.tdiv 60 = zp := by rw [Int.tdiv_eq_ediv_of_nonneg (by omega)]; omega
  have hq2 : off / 60 = zp := by omega
  have o1 : off < 86400 := by have := Hm.out.off; omega
  have HX3 := Lib.hid (show off % 60 = ((m.off.natAbs % 60 : Nat) : Int) by omega)
  have HX1 := Lib.hid (show zp / 60 = ((m.off.natAbs / 3600 : Nat) : Int) by omega)
  have HX2 := Lib.hid (show zp % 60 = ((m.off.natAbs / 60 % 60 : Nat) : Int) by omega)
  have hn1 := Lib.hid (show m.off.natAbs / 3600 < 100 by have := Hm.out.off1; have := Hm.out.off; omega)
  have hn2 := Lib.hid (show m.off.natAbs / 60 % 60 < 100 by omega)
  have hn3 := Lib.hid (show m.off.natAbs % 60 < 100 by omega)
  have Hc := Lib.hid hc
  clear ho hc hzp hz hne
  have Hg0 := Lib.hid (Gw.refl v w)
  go_wp2_with (at_builtin; refine wpList_append_br rfl _ _ rfl rfl (Hb.out.alloc _) [43] ⟨w.heap.size, 0, none⟩ 1 1 rfl rfl cells_one (by have := hx'.out; simp only [List.length_cons, List.length_nil]; omega) (by simp only [World.alloc, Array.size_push]; omega) ?_)
  intro v1 w1 hb1 hg1
  have Hb1 := Lib.hid hb1
  have Hg1 := Lib.hid (Hg0.out.trans (((Gw.refl _ _).alloc _).trans hg1))
  have hB1 : B ≤ w1.heap.size := by have h1 := Hg1.out.1.size; omega
  clear hb1 hg1
  go_wp2_with fail
  go_at_call 157
  refine (aint 2 (m.off.natAbs / 3600) (zp / 60) HX1.out _ Hb1.out (.inl ⟨rfl, hn1.out⟩) (by have := hx'.out; simp only [List.length_append, List.length_cons, List.length_nil]; omega) hB1).mono ?_
  rintro r w2 ⟨v2, rfl, hb2, hg2⟩
  have Hb2 := Lib.hid (show BR B v2 ((xs ++ [43]) ++ Ly.pad 2 (m.off.natAbs / 3600)) w2 by first | exact hb2 | (rw [List.append_assoc]; exact hb2) | simpa using hb2)
  have Hg2 := Lib.hid (Hg1.out.trans (hg2))
  have hB2 : B ≤ w2.heap.size := by have h1 := Hg2.out.1.size; omega
  clear hb2 hg2
  have HL2 := Lib.hid (Ly.pad_length (k := 2) (a := m.off.natAbs / 3600) (by decide) hn1.out)
  go_wp2_with fail
  go_at_call 157
  refine (aint 2 (m.off.natAbs / 60 % 60) (zp % 60) HX2.out _ Hb2.out (.inl ⟨rfl, hn2.out⟩) (by have := hx'.out; have := HL2.out; simp only [List.length_append, List.length_cons, List.length_nil]; omega) hB2).mono ?_
  rintro r w3 ⟨v3, rfl, hb3, hg3⟩
  have Hb3 := Lib.hid (show BR B v3 (((xs ++ [43]) ++ Ly.pad 2 (m.off.natAbs / 3600)) ++ Ly.pad 2 (m.off.natAbs / 60 % 60)) w3 by first | exact hb3 | (rw [List.append_assoc]; exact hb3) | simpa using hb3)
  have Hg3 := Lib.hid (Hg2.out.trans (hg3))
  have hB3 : B ≤ w3.heap.size := by have h1 := Hg3.out.1.size; omega
  clear hb3 hg3
  have HL3 := Lib.hid (Ly.pad_length (k := 2) (a := m.off.natAbs / 60 % 60) (by decide) hn2.out)
  go_wp2
  exact hQ _ _ _ _ _ _ _ (af_of rfl (by kernel_rfl)) (by have ht : xs ++ Ly.txt m (23) = (((xs ++ [43]) ++ Ly.pad 2 (m.off.natAbs / 3600)) ++ Ly.pad 2 (m.off.natAbs / 60 % 60)) := (by show xs ++ (if m.zone = [] then Ly.zn m.off false true false else _) = _; rw [if_pos Hz.out]; unfold Ly.zn; rw [if_neg (by have := Hc.out; omega)] <;> simp); rw [ht]; exact Hb3.out) Hg3.out

end Go.Proofs.YtchmhdmapknmfaaGreatDoor
