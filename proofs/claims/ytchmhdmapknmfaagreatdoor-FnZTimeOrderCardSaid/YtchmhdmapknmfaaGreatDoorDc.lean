/-
  (ztime.Duration).format: one walk a sign and a case. Printed by gen_Dc.py.
-/
import Derived.Test.YtchmhdmapknmfaaGreatDoorDb
import Derived.IntWalk
namespace Go.Proofs.YtchmhdmapknmfaaGreatDoor
open Go.RowKit

theorem slice224 (g k : Nat) (hk : k ≤ 32) (w : World) : (Instr.sliceAt 224 (.pointer (some ⟨g, 0, none⟩)) none (some (.int .i64 k)) none).run Tryz.prog w = .ok (.slice (some ⟨g, 0, none⟩) k 32) w := by
  have hl : Tryz.prog.arrayLen 224 = 32 := by kernel_rfl
  have hz : (sizeOf (Tryz.prog.elem 224)).run Tryz.prog w = .ok 1 w := by kernel_rfl
  rw [run_sliceAt_array_h w 224 _ (by kernel_rfl) .i64 (k : Int) (by omega) (by rw [hl]; omega), hl, hz]
  show Result.ok (slicedAt _ 0 (k : Int).toNat 32 1) w = _
  simp [slicedAt, Addr.add]

theorem dl_length : ∀ (m v : Nat) (out : List UInt8), v < 10 ^ m → (dl v out).length ≤ m + out.length
  | 0, v, out, h => by
    have : v = 0 := by simpa using h
    subst this
    rw [dl_zero]; omega
  | m + 1, v, out, h => by
    by_cases hv : v = 0
    · subst hv; rw [dl_zero]; omega
    · rw [dl_step (by omega)]
      have := dl_length m (v / 10) (dg v :: out) (by rw [Nat.pow_succ] at h; omega)
      simp at this; omega

theorem dn_length (m v : Nat) (out : List UInt8) (h : v < 10 ^ m) (hm : 1 ≤ m) : (dn v out).length ≤ m + out.length := by
  unfold dn
  split
  · simp; omega
  · exact dl_length m v out h

set_option maxRecDepth 100000 in
set_option maxHeartbeats 1000000 in
theorem fmt_pos_s (dd x : Int) (u g B : Nat) (w0 w : World) (hx : x = u) (e1 : IntKind.u64.wrap dd = x) (e2 : 0 ≤ dd) (hB : B ≤ g) (h0 : Below B w0 w) (hT : Tl g [] w) (hu : u ≤ 9223372036854775808) (h9 : 1000000000 ≤ u) (hs : u / 10 ^ 9 < 60) :
    Calls Tryz.prog 153 #[.int .i64 dd, .pointer (some ⟨g, 0, none⟩)] w fun r w' => ∃ k' : Nat, r = .returned (.int .i64 k') ∧ k' + (dn (u / 10 ^ 9 % 60) (fp 9 u [115])).length = 32 ∧ Tl g (dn (u / 10 ^ 9 % 60) (fp 9 u [115])) w' ∧ Below B w0 w' := by
  have hfz := hT.frozen 31
  obtain ⟨v0, hc0⟩ := hT.cell 31 (by omega)
  have H1 := Lib.hid (hT.push (k := 31) (by simp) 115 115 rfl)
  have Hb1 := Lib.hid (h0.setCell (p := ⟨g, 31, none⟩) hB (.int .u8 115))
  have e3 : 1000000000 ≤ x := by omega
  have HF := Lib.hid (fmtFrac_any g 31 9 u B [115] w0 _ hB Hb1.out H1.out (by simp) (by omega) (by omega))
  rw [← hx] at HF
  obtain ⟨s, hs9⟩ : ∃ s : Nat, s = u / 10 ^ 9 := ⟨_, rfl⟩
  have hsx : s ≤ 9223372036 := by omega
  rw [← hs9] at HF hs ⊢
  clear hT h0 hu h9 hx H1 Hb1 hs9
  go_enter Tryz.func153, Tryz.ntmps153
  go_wp2_with fail
  refine HF.out.mono ?_
  rintro r w2 ⟨k2, rfl, hk2, hT, hb⟩
  clear HF
  have hl2' : k2 ≤ 32 := by omega
  have hl2 : 21 ≤ k2 := by have := fp_length 9 u [115]; simp at this; omega
  obtain ⟨y, hy⟩ : ∃ y : Int, y = (s : Int) := ⟨_, rfl⟩
  have HI := Lib.hid (fmtInt_any g k2 (s % 60) B _ w0 w2 hB hb hT hk2 (by omega) (Nat.lt_of_lt_of_le (by omega : s % 60 < 10 ^ 2) (Nat.pow_le_pow_right (by decide) (by omega))) (by omega))
  have hd1 := dn_length 2 (s % 60) (fp 9 u [115]) (by omega) (by omega)
  rw [show ((s % 60 : Nat) : Int) = y % 60 by omega] at HI
  have hsl := slice224 g k2 hl2'
  rw [← hy]
  have y1 : 0 ≤ y := by omega
  have y2 : y / 60 = 0 := by omega
  have y4 : y ≤ 9223372036 := by omega
  have hw1 : IntKind.u64.wrap (y.tmod 60) = y % 60 := by rw [Int.tmod_eq_emod_of_nonneg (by omega)]; exact IntWalk.u64_in _ ⟨by omega, by omega⟩
  have Hy := Lib.hid hy
  clear hT hb hy
  go_wp2_with fail
  refine HI.out.mono ?_
  rintro r w3 ⟨k3, rfl, hk3, hT, hb⟩
  clear HI
  have hl3 : 17 ≤ k3 := by omega
  have HT9 := Lib.hid hT
  have Hb9 := Lib.hid hb
  have Hk9 := Lib.hid hk3
  clear hT hb hk3
  go_wp2
  go_ret
  exact ⟨k3, rfl, Hk9.out, HT9.out, Hb9.out⟩

set_option maxRecDepth 100000 in
set_option maxHeartbeats 1000000 in
theorem fmt_pos_m (dd x : Int) (u g B : Nat) (w0 w : World) (hx : x = u) (e1 : IntKind.u64.wrap dd = x) (e2 : 0 ≤ dd) (hB : B ≤ g) (h0 : Below B w0 w) (hT : Tl g [] w) (hu : u ≤ 9223372036854775808) (h9 : 1000000000 ≤ u) (hs0 : 60 ≤ u / 10 ^ 9) (hs : u / 10 ^ 9 / 60 < 60) :
    Calls Tryz.prog 153 #[.int .i64 dd, .pointer (some ⟨g, 0, none⟩)] w fun r w' => ∃ k' : Nat, r = .returned (.int .i64 k') ∧ k' + (dn (u / 10 ^ 9 / 60 % 60) (109 :: dn (u / 10 ^ 9 % 60) (fp 9 u [115]))).length = 32 ∧ Tl g (dn (u / 10 ^ 9 / 60 % 60) (109 :: dn (u / 10 ^ 9 % 60) (fp 9 u [115]))) w' ∧ Below B w0 w' := by
  have hfz := hT.frozen 31
  obtain ⟨v0, hc0⟩ := hT.cell 31 (by omega)
  have H1 := Lib.hid (hT.push (k := 31) (by simp) 115 115 rfl)
  have Hb1 := Lib.hid (h0.setCell (p := ⟨g, 31, none⟩) hB (.int .u8 115))
  have e3 : 1000000000 ≤ x := by omega
  have HF := Lib.hid (fmtFrac_any g 31 9 u B [115] w0 _ hB Hb1.out H1.out (by simp) (by omega) (by omega))
  rw [← hx] at HF
  obtain ⟨s, hs9⟩ : ∃ s : Nat, s = u / 10 ^ 9 := ⟨_, rfl⟩
  have hsx : s ≤ 9223372036 := by omega
  rw [← hs9] at HF hs hs0 ⊢
  clear hT h0 hu h9 hx H1 Hb1 hs9
  go_enter Tryz.func153, Tryz.ntmps153
  go_wp2_with fail
  refine HF.out.mono ?_
  rintro r w2 ⟨k2, rfl, hk2, hT, hb⟩
  clear HF
  have hl2' : k2 ≤ 32 := by omega
  have hl2 : 21 ≤ k2 := by have := fp_length 9 u [115]; simp at this; omega
  obtain ⟨y, hy⟩ : ∃ y : Int, y = (s : Int) := ⟨_, rfl⟩
  have HI := Lib.hid (fmtInt_any g k2 (s % 60) B _ w0 w2 hB hb hT hk2 (by omega) (Nat.lt_of_lt_of_le (by omega : s % 60 < 10 ^ 2) (Nat.pow_le_pow_right (by decide) (by omega))) (by omega))
  have hd1 := dn_length 2 (s % 60) (fp 9 u [115]) (by omega) (by omega)
  rw [show ((s % 60 : Nat) : Int) = y % 60 by omega] at HI
  have hsl := slice224 g k2 hl2'
  rw [← hy]
  have y1 : 60 ≤ y := by omega
  have y2 : y / 60 / 60 = 0 := by omega
  have y3 : 0 < y / 60 := by omega
  have y4 : y ≤ 9223372036 := by omega
  have hw1 : IntKind.u64.wrap (y.tmod 60) = y % 60 := by rw [Int.tmod_eq_emod_of_nonneg (by omega)]; exact IntWalk.u64_in _ ⟨by omega, by omega⟩
  have Hy := Lib.hid hy
  clear hT hb hy
  go_wp2_with fail
  refine HI.out.mono ?_
  rintro r w3 ⟨k3, rfl, hk3, hT, hb⟩
  clear HI
  have hl3 : 17 ≤ k3 := by omega
  obtain ⟨q3, rfl⟩ : ∃ q, k3 = q + 1 := ⟨k3 - 1, by omega⟩
  have hfz3 := hT.frozen q3
  obtain ⟨v3, hc3⟩ := hT.cell q3 (by omega)
  have hT3 := hT.push (k := q3) (by omega) 109 109 rfl
  have hb3 := hb.setCell (p := ⟨g, q3, none⟩) hB (.int .u8 109)
  have hq3 : q3 ≤ 32 := by omega
  have hd2 := dn_length 2 (s / 60 % 60) (109 :: dn (s % 60) (fp 9 u [115])) (by omega) (by omega)
  rw [List.length_cons] at hd2
  have HI3 := Lib.hid (fmtInt_any g q3 (s / 60 % 60) B _ w0 _ hB hb3 hT3 (by rw [List.length_cons]; omega) (by omega) (Nat.lt_of_lt_of_le (by omega : s / 60 % 60 < 10 ^ 2) (Nat.pow_le_pow_right (by decide) (by omega))) (by omega))
  rw [show ((s / 60 % 60 : Nat) : Int) = y / 60 % 60 by have := Hy.out; omega] at HI3
  have hsl3 := slice224 g q3 hq3
  clear hT hb hT3 hb3
  go_wp2_with fail
  refine HI3.out.mono ?_
  rintro r w4 ⟨k4, rfl, hk4, hT, hb⟩
  clear HI3
  have hl4 : 14 ≤ k4 := by omega
  have HT9 := Lib.hid hT
  have Hb9 := Lib.hid hb
  have Hk9 := Lib.hid hk4
  clear hT hb hk4
  go_wp2
  go_ret
  exact ⟨k4, rfl, Hk9.out, HT9.out, Hb9.out⟩

set_option maxRecDepth 100000 in
set_option maxHeartbeats 1000000 in
theorem fmt_pos_h (dd x : Int) (u g B : Nat) (w0 w : World) (hx : x = u) (e1 : IntKind.u64.wrap dd = x) (e2 : 0 ≤ dd) (hB : B ≤ g) (h0 : Below B w0 w) (hT : Tl g [] w) (hu : u ≤ 9223372036854775808) (h9 : 1000000000 ≤ u) (hs : 60 ≤ u / 10 ^ 9 / 60) :
    Calls Tryz.prog 153 #[.int .i64 dd, .pointer (some ⟨g, 0, none⟩)] w fun r w' => ∃ k' : Nat, r = .returned (.int .i64 k') ∧ k' + (dn (u / 10 ^ 9 / 60 / 60) (104 :: dn (u / 10 ^ 9 / 60 % 60) (109 :: dn (u / 10 ^ 9 % 60) (fp 9 u [115])))).length = 32 ∧ Tl g (dn (u / 10 ^ 9 / 60 / 60) (104 :: dn (u / 10 ^ 9 / 60 % 60) (109 :: dn (u / 10 ^ 9 % 60) (fp 9 u [115])))) w' ∧ Below B w0 w' := by
  have hfz := hT.frozen 31
  obtain ⟨v0, hc0⟩ := hT.cell 31 (by omega)
  have H1 := Lib.hid (hT.push (k := 31) (by simp) 115 115 rfl)
  have Hb1 := Lib.hid (h0.setCell (p := ⟨g, 31, none⟩) hB (.int .u8 115))
  have e3 : 1000000000 ≤ x := by omega
  have HF := Lib.hid (fmtFrac_any g 31 9 u B [115] w0 _ hB Hb1.out H1.out (by simp) (by omega) (by omega))
  rw [← hx] at HF
  obtain ⟨s, hs9⟩ : ∃ s : Nat, s = u / 10 ^ 9 := ⟨_, rfl⟩
  have hsx : s ≤ 9223372036 := by omega
  rw [← hs9] at HF hs ⊢
  clear hT h0 hu h9 hx H1 Hb1 hs9
  go_enter Tryz.func153, Tryz.ntmps153
  go_wp2_with fail
  refine HF.out.mono ?_
  rintro r w2 ⟨k2, rfl, hk2, hT, hb⟩
  clear HF
  have hl2' : k2 ≤ 32 := by omega
  have hl2 : 21 ≤ k2 := by have := fp_length 9 u [115]; simp at this; omega
  obtain ⟨y, hy⟩ : ∃ y : Int, y = (s : Int) := ⟨_, rfl⟩
  have HI := Lib.hid (fmtInt_any g k2 (s % 60) B _ w0 w2 hB hb hT hk2 (by omega) (Nat.lt_of_lt_of_le (by omega : s % 60 < 10 ^ 2) (Nat.pow_le_pow_right (by decide) (by omega))) (by omega))
  have hd1 := dn_length 2 (s % 60) (fp 9 u [115]) (by omega) (by omega)
  rw [show ((s % 60 : Nat) : Int) = y % 60 by omega] at HI
  have hsl := slice224 g k2 hl2'
  rw [← hy]
  have y1 : 3600 ≤ y := by omega
  have y3 : 0 < y / 60 := by omega
  have y2 : 0 < y / 60 / 60 := by omega
  have y4 : y ≤ 9223372036 := by omega
  have hw1 : IntKind.u64.wrap (y.tmod 60) = y % 60 := by rw [Int.tmod_eq_emod_of_nonneg (by omega)]; exact IntWalk.u64_in _ ⟨by omega, by omega⟩
  have Hy := Lib.hid hy
  clear hT hb hy
  go_wp2_with fail
  refine HI.out.mono ?_
  rintro r w3 ⟨k3, rfl, hk3, hT, hb⟩
  clear HI
  have hl3 : 17 ≤ k3 := by omega
  obtain ⟨q3, rfl⟩ : ∃ q, k3 = q + 1 := ⟨k3 - 1, by omega⟩
  have hfz3 := hT.frozen q3
  obtain ⟨v3, hc3⟩ := hT.cell q3 (by omega)
  have hT3 := hT.push (k := q3) (by omega) 109 109 rfl
  have hb3 := hb.setCell (p := ⟨g, q3, none⟩) hB (.int .u8 109)
  have hq3 : q3 ≤ 32 := by omega
  have hd2 := dn_length 2 (s / 60 % 60) (109 :: dn (s % 60) (fp 9 u [115])) (by omega) (by omega)
  rw [List.length_cons] at hd2
  have HI3 := Lib.hid (fmtInt_any g q3 (s / 60 % 60) B _ w0 _ hB hb3 hT3 (by rw [List.length_cons]; omega) (by omega) (Nat.lt_of_lt_of_le (by omega : s / 60 % 60 < 10 ^ 2) (Nat.pow_le_pow_right (by decide) (by omega))) (by omega))
  rw [show ((s / 60 % 60 : Nat) : Int) = y / 60 % 60 by have := Hy.out; omega] at HI3
  have hsl3 := slice224 g q3 hq3
  clear hT hb hT3 hb3
  go_wp2_with fail
  refine HI3.out.mono ?_
  rintro r w4 ⟨k4, rfl, hk4, hT, hb⟩
  clear HI3
  have hl4 : 14 ≤ k4 := by omega
  obtain ⟨q4, rfl⟩ : ∃ q, k4 = q + 1 := ⟨k4 - 1, by omega⟩
  have hfz4 := hT.frozen q4
  obtain ⟨v4, hc4⟩ := hT.cell q4 (by omega)
  have hT4 := hT.push (k := q4) (by omega) 104 104 rfl
  have hb4 := hb.setCell (p := ⟨g, q4, none⟩) hB (.int .u8 104)
  have hq4 : q4 ≤ 32 := by omega
  have hd3 := dn_length 7 (s / 60 / 60) (104 :: dn (s / 60 % 60) (109 :: dn (s % 60) (fp 9 u [115]))) (by omega) (by omega)
  rw [List.length_cons] at hd3
  have HI4 := Lib.hid (fmtInt_any g q4 (s / 60 / 60) B _ w0 _ hB hb4 hT4 (by rw [List.length_cons]; omega) (by omega) (Nat.lt_of_lt_of_le (by omega : s / 60 / 60 < 10 ^ 7) (Nat.pow_le_pow_right (by decide) (by omega))) (by omega))
  rw [show ((s / 60 / 60 : Nat) : Int) = y / 60 / 60 by have := Hy.out; omega] at HI4
  have hsl4 := slice224 g q4 hq4
  clear hT hb hT4 hb4
  go_wp2_with fail
  refine HI4.out.mono ?_
  rintro r w5 ⟨k5, rfl, hk5, hT, hb⟩
  clear HI4
  have hl5 : 5 ≤ k5 := by omega
  have HT9 := Lib.hid hT
  have Hb9 := Lib.hid hb
  have Hk9 := Lib.hid hk5
  clear hT hb hk5
  go_wp2
  go_ret
  exact ⟨k5, rfl, Hk9.out, HT9.out, Hb9.out⟩

set_option maxRecDepth 100000 in
set_option maxHeartbeats 1000000 in
theorem fmt_neg_s (dd x : Int) (u g B : Nat) (w0 w : World) (hx : x = u) (z : Int) (e1 : IntKind.u64.wrap dd = z) (e1b : IntKind.u64.wrap (-z) = x) (e2 : dd < 0) (hB : B ≤ g) (h0 : Below B w0 w) (hT : Tl g [] w) (hu : u ≤ 9223372036854775808) (h9 : 1000000000 ≤ u) (hs : u / 10 ^ 9 < 60) :
    Calls Tryz.prog 153 #[.int .i64 dd, .pointer (some ⟨g, 0, none⟩)] w fun r w' => ∃ k' : Nat, r = .returned (.int .i64 k') ∧ k' + ((45 :: dn (u / 10 ^ 9 % 60) (fp 9 u [115]))).length = 32 ∧ Tl g ((45 :: dn (u / 10 ^ 9 % 60) (fp 9 u [115]))) w' ∧ Below B w0 w' := by
  have hfz := hT.frozen 31
  obtain ⟨v0, hc0⟩ := hT.cell 31 (by omega)
  have H1 := Lib.hid (hT.push (k := 31) (by simp) 115 115 rfl)
  have Hb1 := Lib.hid (h0.setCell (p := ⟨g, 31, none⟩) hB (.int .u8 115))
  have e3 : 1000000000 ≤ x := by omega
  have HF := Lib.hid (fmtFrac_any g 31 9 u B [115] w0 _ hB Hb1.out H1.out (by simp) (by omega) (by omega))
  rw [← hx] at HF
  obtain ⟨s, hs9⟩ : ∃ s : Nat, s = u / 10 ^ 9 := ⟨_, rfl⟩
  have hsx : s ≤ 9223372036 := by omega
  rw [← hs9] at HF hs ⊢
  clear hT h0 hu h9 hx H1 Hb1 hs9
  go_enter Tryz.func153, Tryz.ntmps153
  go_wp2_with fail
  refine HF.out.mono ?_
  rintro r w2 ⟨k2, rfl, hk2, hT, hb⟩
  clear HF
  have hl2' : k2 ≤ 32 := by omega
  have hl2 : 21 ≤ k2 := by have := fp_length 9 u [115]; simp at this; omega
  obtain ⟨y, hy⟩ : ∃ y : Int, y = (s : Int) := ⟨_, rfl⟩
  have HI := Lib.hid (fmtInt_any g k2 (s % 60) B _ w0 w2 hB hb hT hk2 (by omega) (Nat.lt_of_lt_of_le (by omega : s % 60 < 10 ^ 2) (Nat.pow_le_pow_right (by decide) (by omega))) (by omega))
  have hd1 := dn_length 2 (s % 60) (fp 9 u [115]) (by omega) (by omega)
  rw [show ((s % 60 : Nat) : Int) = y % 60 by omega] at HI
  have hsl := slice224 g k2 hl2'
  rw [← hy]
  have y1 : 0 ≤ y := by omega
  have y2 : y / 60 = 0 := by omega
  have y4 : y ≤ 9223372036 := by omega
  have hw1 : IntKind.u64.wrap (y.tmod 60) = y % 60 := by rw [Int.tmod_eq_emod_of_nonneg (by omega)]; exact IntWalk.u64_in _ ⟨by omega, by omega⟩
  have Hy := Lib.hid hy
  clear hT hb hy
  go_wp2_with fail
  refine HI.out.mono ?_
  rintro r w3 ⟨k3, rfl, hk3, hT, hb⟩
  clear HI
  have hl3 : 17 ≤ k3 := by omega
  obtain ⟨q9, rfl⟩ : ∃ q, k3 = q + 1 := ⟨k3 - 1, by omega⟩
  have hfz9 := hT.frozen q9
  obtain ⟨v9, hc9⟩ := hT.cell q9 (by omega)
  have Hp9 := Lib.hid (hT.push (k := q9) (by omega) 45 45 rfl)
  have Hb9 := Lib.hid (hb.setCell (p := ⟨g, q9, none⟩) hB (.int .u8 45))
  have Hk9 := Lib.hid hk3
  have hq9 : q9 < 32 := by omega
  clear hT hb hk3
  go_wp2
  go_ret
  exact ⟨q9, by simp, by have := Hk9.out; first | omega | (rw [List.length_cons]; omega), Hp9.out, Hb9.out⟩

set_option maxRecDepth 100000 in
set_option maxHeartbeats 1000000 in
theorem fmt_neg_m (dd x : Int) (u g B : Nat) (w0 w : World) (hx : x = u) (z : Int) (e1 : IntKind.u64.wrap dd = z) (e1b : IntKind.u64.wrap (-z) = x) (e2 : dd < 0) (hB : B ≤ g) (h0 : Below B w0 w) (hT : Tl g [] w) (hu : u ≤ 9223372036854775808) (h9 : 1000000000 ≤ u) (hs0 : 60 ≤ u / 10 ^ 9) (hs : u / 10 ^ 9 / 60 < 60) :
    Calls Tryz.prog 153 #[.int .i64 dd, .pointer (some ⟨g, 0, none⟩)] w fun r w' => ∃ k' : Nat, r = .returned (.int .i64 k') ∧ k' + ((45 :: dn (u / 10 ^ 9 / 60 % 60) (109 :: dn (u / 10 ^ 9 % 60) (fp 9 u [115])))).length = 32 ∧ Tl g ((45 :: dn (u / 10 ^ 9 / 60 % 60) (109 :: dn (u / 10 ^ 9 % 60) (fp 9 u [115])))) w' ∧ Below B w0 w' := by
  have hfz := hT.frozen 31
  obtain ⟨v0, hc0⟩ := hT.cell 31 (by omega)
  have H1 := Lib.hid (hT.push (k := 31) (by simp) 115 115 rfl)
  have Hb1 := Lib.hid (h0.setCell (p := ⟨g, 31, none⟩) hB (.int .u8 115))
  have e3 : 1000000000 ≤ x := by omega
  have HF := Lib.hid (fmtFrac_any g 31 9 u B [115] w0 _ hB Hb1.out H1.out (by simp) (by omega) (by omega))
  rw [← hx] at HF
  obtain ⟨s, hs9⟩ : ∃ s : Nat, s = u / 10 ^ 9 := ⟨_, rfl⟩
  have hsx : s ≤ 9223372036 := by omega
  rw [← hs9] at HF hs hs0 ⊢
  clear hT h0 hu h9 hx H1 Hb1 hs9
  go_enter Tryz.func153, Tryz.ntmps153
  go_wp2_with fail
  refine HF.out.mono ?_
  rintro r w2 ⟨k2, rfl, hk2, hT, hb⟩
  clear HF
  have hl2' : k2 ≤ 32 := by omega
  have hl2 : 21 ≤ k2 := by have := fp_length 9 u [115]; simp at this; omega
  obtain ⟨y, hy⟩ : ∃ y : Int, y = (s : Int) := ⟨_, rfl⟩
  have HI := Lib.hid (fmtInt_any g k2 (s % 60) B _ w0 w2 hB hb hT hk2 (by omega) (Nat.lt_of_lt_of_le (by omega : s % 60 < 10 ^ 2) (Nat.pow_le_pow_right (by decide) (by omega))) (by omega))
  have hd1 := dn_length 2 (s % 60) (fp 9 u [115]) (by omega) (by omega)
  rw [show ((s % 60 : Nat) : Int) = y % 60 by omega] at HI
  have hsl := slice224 g k2 hl2'
  rw [← hy]
  have y1 : 60 ≤ y := by omega
  have y2 : y / 60 / 60 = 0 := by omega
  have y3 : 0 < y / 60 := by omega
  have y4 : y ≤ 9223372036 := by omega
  have hw1 : IntKind.u64.wrap (y.tmod 60) = y % 60 := by rw [Int.tmod_eq_emod_of_nonneg (by omega)]; exact IntWalk.u64_in _ ⟨by omega, by omega⟩
  have Hy := Lib.hid hy
  clear hT hb hy
  go_wp2_with fail
  refine HI.out.mono ?_
  rintro r w3 ⟨k3, rfl, hk3, hT, hb⟩
  clear HI
  have hl3 : 17 ≤ k3 := by omega
  obtain ⟨q3, rfl⟩ : ∃ q, k3 = q + 1 := ⟨k3 - 1, by omega⟩
  have hfz3 := hT.frozen q3
  obtain ⟨v3, hc3⟩ := hT.cell q3 (by omega)
  have hT3 := hT.push (k := q3) (by omega) 109 109 rfl
  have hb3 := hb.setCell (p := ⟨g, q3, none⟩) hB (.int .u8 109)
  have hq3 : q3 ≤ 32 := by omega
  have hd2 := dn_length 2 (s / 60 % 60) (109 :: dn (s % 60) (fp 9 u [115])) (by omega) (by omega)
  rw [List.length_cons] at hd2
  have HI3 := Lib.hid (fmtInt_any g q3 (s / 60 % 60) B _ w0 _ hB hb3 hT3 (by rw [List.length_cons]; omega) (by omega) (Nat.lt_of_lt_of_le (by omega : s / 60 % 60 < 10 ^ 2) (Nat.pow_le_pow_right (by decide) (by omega))) (by omega))
  rw [show ((s / 60 % 60 : Nat) : Int) = y / 60 % 60 by have := Hy.out; omega] at HI3
  have hsl3 := slice224 g q3 hq3
  clear hT hb hT3 hb3
  go_wp2_with fail
  refine HI3.out.mono ?_
  rintro r w4 ⟨k4, rfl, hk4, hT, hb⟩
  clear HI3
  have hl4 : 14 ≤ k4 := by omega
  obtain ⟨q9, rfl⟩ : ∃ q, k4 = q + 1 := ⟨k4 - 1, by omega⟩
  have hfz9 := hT.frozen q9
  obtain ⟨v9, hc9⟩ := hT.cell q9 (by omega)
  have Hp9 := Lib.hid (hT.push (k := q9) (by omega) 45 45 rfl)
  have Hb9 := Lib.hid (hb.setCell (p := ⟨g, q9, none⟩) hB (.int .u8 45))
  have Hk9 := Lib.hid hk4
  have hq9 : q9 < 32 := by omega
  clear hT hb hk4
  go_wp2
  go_ret
  exact ⟨q9, by simp, by have := Hk9.out; first | omega | (rw [List.length_cons]; omega), Hp9.out, Hb9.out⟩

set_option maxRecDepth 100000 in
set_option maxHeartbeats 1000000 in
theorem fmt_neg_h (dd x : Int) (u g B : Nat) (w0 w : World) (hx : x = u) (z : Int) (e1 : IntKind.u64.wrap dd = z) (e1b : IntKind.u64.wrap (-z) = x) (e2 : dd < 0) (hB : B ≤ g) (h0 : Below B w0 w) (hT : Tl g [] w) (hu : u ≤ 9223372036854775808) (h9 : 1000000000 ≤ u) (hs : 60 ≤ u / 10 ^ 9 / 60) :
    Calls Tryz.prog 153 #[.int .i64 dd, .pointer (some ⟨g, 0, none⟩)] w fun r w' => ∃ k' : Nat, r = .returned (.int .i64 k') ∧ k' + ((45 :: dn (u / 10 ^ 9 / 60 / 60) (104 :: dn (u / 10 ^ 9 / 60 % 60) (109 :: dn (u / 10 ^ 9 % 60) (fp 9 u [115]))))).length = 32 ∧ Tl g ((45 :: dn (u / 10 ^ 9 / 60 / 60) (104 :: dn (u / 10 ^ 9 / 60 % 60) (109 :: dn (u / 10 ^ 9 % 60) (fp 9 u [115]))))) w' ∧ Below B w0 w' := by
  have hfz := hT.frozen 31
  obtain ⟨v0, hc0⟩ := hT.cell 31 (by omega)
  have H1 := Lib.hid (hT.push (k := 31) (by simp) 115 115 rfl)
  have Hb1 := Lib.hid (h0.setCell (p := ⟨g, 31, none⟩) hB (.int .u8 115))
  have e3 : 1000000000 ≤ x := by omega
  have HF := Lib.hid (fmtFrac_any g 31 9 u B [115] w0 _ hB Hb1.out H1.out (by simp) (by omega) (by omega))
  rw [← hx] at HF
  obtain ⟨s, hs9⟩ : ∃ s : Nat, s = u / 10 ^ 9 := ⟨_, rfl⟩
  have hsx : s ≤ 9223372036 := by omega
  rw [← hs9] at HF hs ⊢
  clear hT h0 hu h9 hx H1 Hb1 hs9
  go_enter Tryz.func153, Tryz.ntmps153
  go_wp2_with fail
  refine HF.out.mono ?_
  rintro r w2 ⟨k2, rfl, hk2, hT, hb⟩
  clear HF
  have hl2' : k2 ≤ 32 := by omega
  have hl2 : 21 ≤ k2 := by have := fp_length 9 u [115]; simp at this; omega
  obtain ⟨y, hy⟩ : ∃ y : Int, y = (s : Int) := ⟨_, rfl⟩
  have HI := Lib.hid (fmtInt_any g k2 (s % 60) B _ w0 w2 hB hb hT hk2 (by omega) (Nat.lt_of_lt_of_le (by omega : s % 60 < 10 ^ 2) (Nat.pow_le_pow_right (by decide) (by omega))) (by omega))
  have hd1 := dn_length 2 (s % 60) (fp 9 u [115]) (by omega) (by omega)
  rw [show ((s % 60 : Nat) : Int) = y % 60 by omega] at HI
  have hsl := slice224 g k2 hl2'
  rw [← hy]
  have y1 : 3600 ≤ y := by omega
  have y3 : 0 < y / 60 := by omega
  have y2 : 0 < y / 60 / 60 := by omega
  have y4 : y ≤ 9223372036 := by omega
  have hw1 : IntKind.u64.wrap (y.tmod 60) = y % 60 := by rw [Int.tmod_eq_emod_of_nonneg (by omega)]; exact IntWalk.u64_in _ ⟨by omega, by omega⟩
  have Hy := Lib.hid hy
  clear hT hb hy
  go_wp2_with fail
  refine HI.out.mono ?_
  rintro r w3 ⟨k3, rfl, hk3, hT, hb⟩
  clear HI
  have hl3 : 17 ≤ k3 := by omega
  obtain ⟨q3, rfl⟩ : ∃ q, k3 = q + 1 := ⟨k3 - 1, by omega⟩
  have hfz3 := hT.frozen q3
  obtain ⟨v3, hc3⟩ := hT.cell q3 (by omega)
  have hT3 := hT.push (k := q3) (by omega) 109 109 rfl
  have hb3 := hb.setCell (p := ⟨g, q3, none⟩) hB (.int .u8 109)
  have hq3 : q3 ≤ 32 := by omega
  have hd2 := dn_length 2 (s / 60 % 60) (109 :: dn (s % 60) (fp 9 u [115])) (by omega) (by omega)
  rw [List.length_cons] at hd2
  have HI3 := Lib.hid (fmtInt_any g q3 (s / 60 % 60) B _ w0 _ hB hb3 hT3 (by rw [List.length_cons]; omega) (by omega) (Nat.lt_of_lt_of_le (by omega : s / 60 % 60 < 10 ^ 2) (Nat.pow_le_pow_right (by decide) (by omega))) (by omega))
  rw [show ((s / 60 % 60 : Nat) : Int) = y / 60 % 60 by have := Hy.out; omega] at HI3
  have hsl3 := slice224 g q3 hq3
  clear hT hb hT3 hb3
  go_wp2_with fail
  refine HI3.out.mono ?_
  rintro r w4 ⟨k4, rfl, hk4, hT, hb⟩
  clear HI3
  have hl4 : 14 ≤ k4 := by omega
  obtain ⟨q4, rfl⟩ : ∃ q, k4 = q + 1 := ⟨k4 - 1, by omega⟩
  have hfz4 := hT.frozen q4
  obtain ⟨v4, hc4⟩ := hT.cell q4 (by omega)
  have hT4 := hT.push (k := q4) (by omega) 104 104 rfl
  have hb4 := hb.setCell (p := ⟨g, q4, none⟩) hB (.int .u8 104)
  have hq4 : q4 ≤ 32 := by omega
  have hd3 := dn_length 7 (s / 60 / 60) (104 :: dn (s / 60 % 60) (109 :: dn (s % 60) (fp 9 u [115]))) (by omega) (by omega)
  rw [List.length_cons] at hd3
  have HI4 := Lib.hid (fmtInt_any g q4 (s / 60 / 60) B _ w0 _ hB hb4 hT4 (by rw [List.length_cons]; omega) (by omega) (Nat.lt_of_lt_of_le (by omega : s / 60 / 60 < 10 ^ 7) (Nat.pow_le_pow_right (by decide) (by omega))) (by omega))
  rw [show ((s / 60 / 60 : Nat) : Int) = y / 60 / 60 by have := Hy.out; omega] at HI4
  have hsl4 := slice224 g q4 hq4
  clear hT hb hT4 hb4
  go_wp2_with fail
  refine HI4.out.mono ?_
  rintro r w5 ⟨k5, rfl, hk5, hT, hb⟩
  clear HI4
  have hl5 : 5 ≤ k5 := by omega
  obtain ⟨q9, rfl⟩ : ∃ q, k5 = q + 1 := ⟨k5 - 1, by omega⟩
  have hfz9 := hT.frozen q9
  obtain ⟨v9, hc9⟩ := hT.cell q9 (by omega)
  have Hp9 := Lib.hid (hT.push (k := q9) (by omega) 45 45 rfl)
  have Hb9 := Lib.hid (hb.setCell (p := ⟨g, q9, none⟩) hB (.int .u8 45))
  have Hk9 := Lib.hid hk5
  have hq9 : q9 < 32 := by omega
  clear hT hb hk5
  go_wp2
  go_ret
  exact ⟨q9, by simp, by have := Hk9.out; first | omega | (rw [List.length_cons]; omega), Hp9.out, Hb9.out⟩
end Go.Proofs.YtchmhdmapknmfaaGreatDoor
