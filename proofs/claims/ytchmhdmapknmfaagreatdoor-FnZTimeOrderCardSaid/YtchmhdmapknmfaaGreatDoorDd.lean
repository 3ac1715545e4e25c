/-
  (ztime.Duration).format below a second: one walk a sign and a case. Printed by gen_Dd.py.
-/
import Derived.Test.YtchmhdmapknmfaaGreatDoorDc
namespace Go.Proofs.YtchmhdmapknmfaaGreatDoor
open Go.RowKit

set_option maxRecDepth 100000 in
set_option maxHeartbeats 1000000 in
theorem fmt_pos_z (dd x : Int) (u g B : Nat) (w0 w : World) (hx : x = u) (e1 : IntKind.u64.wrap dd = x) (e2 : 0 ≤ dd) (hB : B ≤ g) (h0 : Below B w0 w) (hT : Tl g [] w) (h9 : u = 0) :
    Calls Tryz.prog 153 #[.int .i64 dd, .pointer (some ⟨g, 0, none⟩)] w fun r w' => ∃ k' : Nat, r = .returned (.int .i64 k') ∧ k' + ([48, 115]).length = 32 ∧ Tl g ([48, 115]) w' ∧ Below B w0 w' := by
  have hfz := hT.frozen 31
  obtain ⟨v0, hc0⟩ := hT.cell 31 (by omega)
  have H1 := hT.push (k := 31) (by simp) 115 115 rfl
  have hfz1 := H1.frozen 30
  obtain ⟨v1, hc1⟩ := H1.cell 30 (by omega)
  have H2 := Lib.hid (H1.push (k := 30) (by simp) 48 48 rfl)
  have Hb2 := Lib.hid ((h0.setCell (p := ⟨g, 31, none⟩) hB (.int .u8 115)).setCell (p := ⟨g, 30, none⟩) hB (.int .u8 48))
  have e3 : x = 0 := by omega
  subst e3
  clear hT h0 h9 hx H1
  go_enter Tryz.func153, Tryz.ntmps153
  go_wp2
  go_ret
  exact ⟨30, rfl, rfl, H2.out, Hb2.out⟩

set_option maxRecDepth 100000 in
set_option maxHeartbeats 1000000 in
theorem fmt_pos_ns (dd x : Int) (u g B : Nat) (w0 w : World) (hx : x = u) (e1 : IntKind.u64.wrap dd = x) (e2 : 0 ≤ dd) (hB : B ≤ g) (h0 : Below B w0 w) (hT : Tl g [] w) (hu : u ≤ 9223372036854775808) (h9 : 1 ≤ u) (hs : u < 1000) :
    Calls Tryz.prog 153 #[.int .i64 dd, .pointer (some ⟨g, 0, none⟩)] w fun r w' => ∃ k' : Nat, r = .returned (.int .i64 k') ∧ k' + (dn (u / 10 ^ 0) (fp 0 u [110, 115])).length = 32 ∧ Tl g (dn (u / 10 ^ 0) (fp 0 u [110, 115])) w' ∧ Below B w0 w' := by
  have hfz := hT.frozen 31
  obtain ⟨v0, hc0⟩ := hT.cell 31 (by omega)
  have H1 := hT.push (k := 31) (by simp) 115 115 rfl
  have hfz1 := H1.frozen 30
  obtain ⟨v1, hc1⟩ := H1.cell 30 (by omega)
  have H2 := Lib.hid (H1.push (k := 30) (by simp) 110 110 rfl)
  have Hb2 := Lib.hid ((h0.setCell (p := ⟨g, 31, none⟩) hB (.int .u8 115)).setCell (p := ⟨g, 30, none⟩) hB (.int .u8 110))
  have e3 : x < 1000000000 := by omega
  have e4 : x < 1000 := by omega
  have e5 : (x == 0) = false := by rw [beq_eq_false_iff_ne]; omega
  have HF := Lib.hid (fmtFrac_any g 30 0 u B [110, 115] w0 _ hB Hb2.out H2.out (by simp) (by omega) (by omega))
  rw [← hx] at HF
  obtain ⟨s, hs9⟩ : ∃ s : Nat, s = u / 10 ^ 0 := ⟨_, rfl⟩
  have hsx : s < 1000 := by omega
  rw [← hs9] at HF ⊢
  clear hT h0 hu h9 hx H1 H2 Hb2 hs9 hs
  go_enter Tryz.func153, Tryz.ntmps153
  go_wp2_with fail
  refine HF.out.mono ?_
  rintro r w2 ⟨k2, rfl, hk2, hT, hb⟩
  clear HF
  have hl2' : k2 ≤ 32 := by omega
  have hl2 : 23 ≤ k2 := by have := fp_length 0 u [110, 115]; simp at this; omega
  have HI := Lib.hid (fmtInt_any g k2 s B _ w0 w2 hB hb hT hk2 (by omega) (Nat.lt_of_lt_of_le (by omega : s < 10 ^ 3) (Nat.pow_le_pow_right (by decide) (by omega))) (by omega))
  have hd1 := dn_length 3 s (fp 0 u [110, 115]) (by omega) (by omega)
  have hsl := slice224 g k2 hl2'
  clear hT hb
  go_wp2_with fail
  refine HI.out.mono ?_
  rintro r w3 ⟨k3, rfl, hk3, hT, hb⟩
  clear HI
  have hl3 : 17 ≤ k3 := by omega
  have HT9 := Lib.hid hT
  have Hb9 := Lib.hid hb
  have Hk9 := Lib.hid hk3
  clear hT hb hk3
  go_wp2
  go_ret
  exact ⟨k3, rfl, Hk9.out, HT9.out, Hb9.out⟩

set_option maxRecDepth 100000 in
set_option maxHeartbeats 1000000 in
theorem fmt_pos_ms (dd x : Int) (u g B : Nat) (w0 w : World) (hx : x = u) (e1 : IntKind.u64.wrap dd = x) (e2 : 0 ≤ dd) (hB : B ≤ g) (h0 : Below B w0 w) (hT : Tl g [] w) (hu : u ≤ 9223372036854775808) (h9 : 1000000 ≤ u) (hs : u < 1000000000) :
    Calls Tryz.prog 153 #[.int .i64 dd, .pointer (some ⟨g, 0, none⟩)] w fun r w' => ∃ k' : Nat, r = .returned (.int .i64 k') ∧ k' + (dn (u / 10 ^ 6) (fp 6 u [109, 115])).length = 32 ∧ Tl g (dn (u / 10 ^ 6) (fp 6 u [109, 115])) w' ∧ Below B w0 w' := by
  have hfz := hT.frozen 31
  obtain ⟨v0, hc0⟩ := hT.cell 31 (by omega)
  have H1 := hT.push (k := 31) (by simp) 115 115 rfl
  have hfz1 := H1.frozen 30
  obtain ⟨v1, hc1⟩ := H1.cell 30 (by omega)
  have H2 := Lib.hid (H1.push (k := 30) (by simp) 109 109 rfl)
  have Hb2 := Lib.hid ((h0.setCell (p := ⟨g, 31, none⟩) hB (.int .u8 115)).setCell (p := ⟨g, 30, none⟩) hB (.int .u8 109))
  have e3 : x < 1000000000 := by omega
  have e4 : 1000000 ≤ x := by omega
  have e5 : (x == 0) = false := by rw [beq_eq_false_iff_ne]; omega
  have HF := Lib.hid (fmtFrac_any g 30 6 u B [109, 115] w0 _ hB Hb2.out H2.out (by simp) (by omega) (by omega))
  rw [← hx] at HF
  obtain ⟨s, hs9⟩ : ∃ s : Nat, s = u / 10 ^ 6 := ⟨_, rfl⟩
  have hsx : s < 1000 := by omega
  rw [← hs9] at HF ⊢
  clear hT h0 hu h9 hx H1 H2 Hb2 hs9 hs
  go_enter Tryz.func153, Tryz.ntmps153
  go_wp2_with fail
  refine HF.out.mono ?_
  rintro r w2 ⟨k2, rfl, hk2, hT, hb⟩
  clear HF
  have hl2' : k2 ≤ 32 := by omega
  have hl2 : 23 ≤ k2 := by have := fp_length 6 u [109, 115]; simp at this; omega
  have HI := Lib.hid (fmtInt_any g k2 s B _ w0 w2 hB hb hT hk2 (by omega) (Nat.lt_of_lt_of_le (by omega : s < 10 ^ 3) (Nat.pow_le_pow_right (by decide) (by omega))) (by omega))
  have hd1 := dn_length 3 s (fp 6 u [109, 115]) (by omega) (by omega)
  have hsl := slice224 g k2 hl2'
  clear hT hb
  go_wp2_with fail
  refine HI.out.mono ?_
  rintro r w3 ⟨k3, rfl, hk3, hT, hb⟩
  clear HI
  have hl3 : 17 ≤ k3 := by omega
  have HT9 := Lib.hid hT
  have Hb9 := Lib.hid hb
  have Hk9 := Lib.hid hk3
  clear hT hb hk3
  go_wp2
  go_ret
  exact ⟨k3, rfl, Hk9.out, HT9.out, Hb9.out⟩

set_option maxRecDepth 100000 in
set_option maxHeartbeats 1000000 in
theorem fmt_neg_ns (dd x : Int) (u g B : Nat) (w0 w : World) (hx : x = u) (z : Int) (e1 : IntKind.u64.wrap dd = z) (e1b : IntKind.u64.wrap (-z) = x) (e2 : dd < 0) (hB : B ≤ g) (h0 : Below B w0 w) (hT : Tl g [] w) (hu : u ≤ 9223372036854775808) (h9 : 1 ≤ u) (hs : u < 1000) :
    Calls Tryz.prog 153 #[.int .i64 dd, .pointer (some ⟨g, 0, none⟩)] w fun r w' => ∃ k' : Nat, r = .returned (.int .i64 k') ∧ k' + ((45 :: dn (u / 10 ^ 0) (fp 0 u [110, 115]))).length = 32 ∧ Tl g ((45 :: dn (u / 10 ^ 0) (fp 0 u [110, 115]))) w' ∧ Below B w0 w' := by
  have hfz := hT.frozen 31
  obtain ⟨v0, hc0⟩ := hT.cell 31 (by omega)
  have H1 := hT.push (k := 31) (by simp) 115 115 rfl
  have hfz1 := H1.frozen 30
  obtain ⟨v1, hc1⟩ := H1.cell 30 (by omega)
  have H2 := Lib.hid (H1.push (k := 30) (by simp) 110 110 rfl)
  have Hb2 := Lib.hid ((h0.setCell (p := ⟨g, 31, none⟩) hB (.int .u8 115)).setCell (p := ⟨g, 30, none⟩) hB (.int .u8 110))
  have e3 : x < 1000000000 := by omega
  have e4 : x < 1000 := by omega
  have e5 : (x == 0) = false := by rw [beq_eq_false_iff_ne]; omega
  have HF := Lib.hid (fmtFrac_any g 30 0 u B [110, 115] w0 _ hB Hb2.out H2.out (by simp) (by omega) (by omega))
  rw [← hx] at HF
  obtain ⟨s, hs9⟩ : ∃ s : Nat, s = u / 10 ^ 0 := ⟨_, rfl⟩
  have hsx : s < 1000 := by omega
  rw [← hs9] at HF ⊢
  clear hT h0 hu h9 hx H1 H2 Hb2 hs9 hs
  go_enter Tryz.func153, Tryz.ntmps153
  go_wp2_with fail
  refine HF.out.mono ?_
  rintro r w2 ⟨k2, rfl, hk2, hT, hb⟩
  clear HF
  have hl2' : k2 ≤ 32 := by omega
  have hl2 : 23 ≤ k2 := by have := fp_length 0 u [110, 115]; simp at this; omega
  have HI := Lib.hid (fmtInt_any g k2 s B _ w0 w2 hB hb hT hk2 (by omega) (Nat.lt_of_lt_of_le (by omega : s < 10 ^ 3) (Nat.pow_le_pow_right (by decide) (by omega))) (by omega))
  have hd1 := dn_length 3 s (fp 0 u [110, 115]) (by omega) (by omega)
  have hsl := slice224 g k2 hl2'
  clear hT hb
  go_wp2_with fail
  refine HI.out.mono ?_
  rintro r w3 ⟨k3, rfl, hk3, hT, hb⟩
  clear HI
  have hl3 : 17 ≤ k3 := by omega
  obtain ⟨q9, rfl⟩ : ∃ q, k3 = q + 1 := ⟨k3 - 1, by omega⟩
  have hfz9 := hT.frozen q9
  obtain ⟨v9, hc9⟩ := hT.cell q9 (by omega)
  have Hp9 := Lib.hid (hT.push (k := q9) (by omega) 45 45 rfl)
  have Hb9 := Lib.hid (hb.setCell (p := ⟨g, q9, none⟩) hB (.int .u8 45))
  have Hk9 := Lib.hid hk3
  have hq9 : q9 < 32 := by omega
  clear hT hb hk3
  go_wp2
  go_ret
  exact ⟨q9, by simp, by have := Hk9.out; first | omega | (rw [List.length_cons]; omega), Hp9.out, Hb9.out⟩

set_option maxRecDepth 100000 in
set_option maxHeartbeats 1000000 in
theorem fmt_neg_ms (dd x : Int) (u g B : Nat) (w0 w : World) (hx : x = u) (z : Int) (e1 : IntKind.u64.wrap dd = z) (e1b : IntKind.u64.wrap (-z) = x) (e2 : dd < 0) (hB : B ≤ g) (h0 : Below B w0 w) (hT : Tl g [] w) (hu : u ≤ 9223372036854775808) (h9 : 1000000 ≤ u) (hs : u < 1000000000) :
    Calls Tryz.prog 153 #[.int .i64 dd, .pointer (some ⟨g, 0, none⟩)] w fun r w' => ∃ k' : Nat, r = .returned (.int .i64 k') ∧ k' + ((45 :: dn (u / 10 ^ 6) (fp 6 u [109, 115]))).length = 32 ∧ Tl g ((45 :: dn (u / 10 ^ 6) (fp 6 u [109, 115]))) w' ∧ Below B w0 w' := by
  have hfz := hT.frozen 31
  obtain ⟨v0, hc0⟩ := hT.cell 31 (by omega)
  have H1 := hT.push (k := 31) (by simp) 115 115 rfl
  have hfz1 := H1.frozen 30
  obtain ⟨v1, hc1⟩ := H1.cell 30 (by omega)
  have H2 := Lib.hid (H1.push (k := 30) (by simp) 109 109 rfl)
  have Hb2 := Lib.hid ((h0.setCell (p := ⟨g, 31, none⟩) hB (.int .u8 115)).setCell (p := ⟨g, 30, none⟩) hB (.int .u8 109))
  have e3 : x < 1000000000 := by omega
  have e4 : 1000000 ≤ x := by omega
  have e5 : (x == 0) = false := by rw [beq_eq_false_iff_ne]; omega
  have HF := Lib.hid (fmtFrac_any g 30 6 u B [109, 115] w0 _ hB Hb2.out H2.out (by simp) (by omega) (by omega))
  rw [← hx] at HF
  obtain ⟨s, hs9⟩ : ∃ s : Nat, s = u / 10 ^ 6 := ⟨_, rfl⟩
  have hsx : s < 1000 := by omega
  rw [← hs9] at HF ⊢
  clear hT h0 hu h9 hx H1 H2 Hb2 hs9 hs
  go_enter Tryz.func153, Tryz.ntmps153
  go_wp2_with fail
  refine HF.out.mono ?_
  rintro r w2 ⟨k2, rfl, hk2, hT, hb⟩
  clear HF
  have hl2' : k2 ≤ 32 := by omega
  have hl2 : 23 ≤ k2 := by have := fp_length 6 u [109, 115]; simp at this; omega
  have HI := Lib.hid (fmtInt_any g k2 s B _ w0 w2 hB hb hT hk2 (by omega) (Nat.lt_of_lt_of_le (by omega : s < 10 ^ 3) (Nat.pow_le_pow_right (by decide) (by omega))) (by omega))
  have hd1 := dn_length 3 s (fp 6 u [109, 115]) (by omega) (by omega)
  have hsl := slice224 g k2 hl2'
  clear hT hb
  go_wp2_with fail
  refine HI.out.mono ?_
  rintro r w3 ⟨k3, rfl, hk3, hT, hb⟩
  clear HI
  have hl3 : 17 ≤ k3 := by omega
  obtain ⟨q9, rfl⟩ : ∃ q, k3 = q + 1 := ⟨k3 - 1, by omega⟩
  have hfz9 := hT.frozen q9
  obtain ⟨v9, hc9⟩ := hT.cell q9 (by omega)
  have Hp9 := Lib.hid (hT.push (k := q9) (by omega) 45 45 rfl)
  have Hb9 := Lib.hid (hb.setCell (p := ⟨g, q9, none⟩) hB (.int .u8 45))
  have Hk9 := Lib.hid hk3
  have hq9 : q9 < 32 := by omega
  clear hT hb hk3
  go_wp2
  go_ret
  exact ⟨q9, by simp, by have := Hk9.out; first | omega | (rw [List.length_cons]; omega), Hp9.out, Hb9.out⟩
end Go.Proofs.YtchmhdmapknmfaaGreatDoor
