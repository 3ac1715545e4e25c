/-
  (ztime.Duration).format at microseconds. Printed by gen_De.py.
-/
import Derived.Test.YtchmhdmapknmfaaGreatDoorDd
namespace Go.Proofs.YtchmhdmapknmfaaGreatDoor
open Go.RowKit

theorem Tl.push2 {g : Nat} {w : World} (h : Tl g [115] w) : Tl g [194, 181, 115] (w.setCells g 29 [.int .u8 194, .int .u8 181]) := by
  obtain ⟨L, h, h32, hle, hd⟩ := h
  have h1 : (w.setCells g 29 [.int .u8 194, .int .u8 181]).heap[g]? = some (.cells (bRow ((L.set 29 194).set 30 181)).toArray 224 (0, 0)) := by
    have a1 := heap_set (h) 29 (.int .u8 194)
    have a2 := heap_set a1 30 (.int .u8 181)
    rw [← bRow_set, ← bRow_set]
    exact a2
  refine ⟨(L.set 29 194).set 30 181, h1, by simpa using h32, by simp, ?_⟩
  have hd' : L.drop 31 = [115] := hd
  show ((L.set 29 194).set 30 181).drop 29 = [194, 181, 115]
  rw [List.drop_eq_getElem_cons (by simp; omega), List.drop_eq_getElem_cons (by simp; omega), List.drop_set_of_lt (by omega), List.drop_set_of_lt (by omega), hd']
  simp

theorem copy_mu {g : Nat} {w : World} (h : Tl g [115] w) : (Builtin.copy_ #[101, 9] 3 #[.slice (some ⟨g, 29, none⟩) 3 3, .string ⟨#[194, 181]⟩]).run Tryz.prog w = .ok (goInt 2) (w.setCells g 29 [.int .u8 194, .int .u8 181]) := by
  have hst := run_storeCells_cells (P := Tryz.prog) g 29 [.int .u8 194, .int .u8 181] 0 w (fun j hj => by obtain ⟨v, hv⟩ := h.cell (29 + j) (by simp at hj; omega); simp [hv]) (fun j _ => h.frozen _) (by intro v hv; simp at hv; rcases hv with rfl | rfl <;> rfl)
  have hi := Tryz.info5
  cases hq : Tryz.prog.info? 5 with
  | none => rw [hq] at hi; simp at hi
  | some i =>
    have hm : (ByteArray.size ⟨#[194, 181]⟩).min 3 = 2 := rfl
    simp [Builtin.copy_, run_underlying Tryz.underlying101, Builtin.lenOf, Builtin.firstCells, sizeOf, typeInfo, hq]
    rw [hm]
    show ((storeCells ⟨g, 29, none⟩ [.int .u8 194, .int .u8 181] 0).run Tryz.prog w).andThen _ = _
    rw [hst]
    rfl

set_option maxRecDepth 100000 in
set_option maxHeartbeats 1000000 in
theorem fmt_pos_us (dd x : Int) (u g B : Nat) (w0 w : World) (hx : x = u) (e1 : IntKind.u64.wrap dd = x) (e2 : 0 ≤ dd) (hB : B ≤ g) (h0 : Below B w0 w) (hT : Tl g [] w) (hu : u ≤ 9223372036854775808) (h9 : 1000 ≤ u) (hs : u < 1000000) :
    Calls Tryz.prog 153 #[.int .i64 dd, .pointer (some ⟨g, 0, none⟩)] w fun r w' => ∃ k' : Nat, r = .returned (.int .i64 k') ∧ k' + (dn (u / 10 ^ 3) (fp 3 u [194, 181, 115])).length = 32 ∧ Tl g (dn (u / 10 ^ 3) (fp 3 u [194, 181, 115])) w' ∧ Below B w0 w' := by
  have hfz := hT.frozen 31
  obtain ⟨v0, hc0⟩ := hT.cell 31 (by omega)
  have H1 := hT.push (k := 31) (by simp) 115 115 rfl
  have H2 := Lib.hid H1.push2
  have hcp := copy_mu H1
  have Hb2 := Lib.hid (((h0.setCell (p := ⟨g, 31, none⟩) hB (.int .u8 115)).setCell (p := ⟨g, 29, none⟩) hB (.int .u8 194)).setCell (p := ⟨g, 30, none⟩) hB (.int .u8 181))
  have e3 : x < 1000000 := by omega
  have e4 : 1000 ≤ x := by omega
  have e5 : (x == 0) = false := by rw [beq_eq_false_iff_ne]; omega
  have HF := Lib.hid (fmtFrac_any g 29 3 u B [194, 181, 115] w0 _ hB Hb2.out H2.out (by simp) (by omega) (by omega))
  rw [← hx] at HF
  obtain ⟨s, hs9⟩ : ∃ s : Nat, s = u / 10 ^ 3 := ⟨_, rfl⟩
  have hsx : s < 1000 := by omega
  rw [← hs9] at HF ⊢
  clear hT h0 hu h9 hx H1 H2 Hb2 hs9 hs
  go_enter Tryz.func153, Tryz.ntmps153
  go_wp2_with fail
  refine HF.out.mono ?_
  rintro r w2 ⟨k2, rfl, hk2, hT, hb⟩
  clear HF
  have hl2' : k2 ≤ 32 := by omega
  have hl2 : 23 ≤ k2 := by have := fp_length 3 u [194, 181, 115]; simp at this; omega
  have HI := Lib.hid (fmtInt_any g k2 s B _ w0 w2 hB hb hT hk2 (by omega) (Nat.lt_of_lt_of_le (by omega : s < 10 ^ 3) (Nat.pow_le_pow_right (by decide) (by omega))) (by omega))
  have hd1 := dn_length 3 s (fp 3 u [194, 181, 115]) (by omega) (by omega)
  have hsl := slice224 g k2 hl2'
  clear hT hb
  go_wp2_with fail
  refine HI.out.mono ?_
  rintro r w3 ⟨k3, rfl, hk3, hT, hb⟩
  clear HI
  have hl3 : 17 ≤ k3 := by omega
  have HT9 := Lib.hid hT
  have Hb9 := Lib.hid hb
  have Hk9 := Lib.hid hk3
  clear hT hb hk3
  go_wp2
  go_ret
  exact ⟨k3, rfl, Hk9.out, HT9.out, Hb9.out⟩

set_option maxRecDepth 100000 in
set_option maxHeartbeats 1000000 in
theorem fmt_neg_us (dd x : Int) (u g B : Nat) (w0 w : World) (hx : x = u) (z : Int) (e1 : IntKind.u64.wrap dd = z) (e1b : IntKind.u64.wrap (-z) = x) (e2 : dd < 0) (hB : B ≤ g) (h0 : Below B w0 w) (hT : Tl g [] w) (hu : u ≤ 9223372036854775808) (h9 : 1000 ≤ u) (hs : u < 1000000) :
    Calls Tryz.prog 153 #[.int .i64 dd, .pointer (some ⟨g, 0, none⟩)] w fun r w' => ∃ k' : Nat, r = .returned (.int .i64 k') ∧ k' + ((45 :: dn (u / 10 ^ 3) (fp 3 u [194, 181, 115]))).length = 32 ∧ Tl g ((45 :: dn (u / 10 ^ 3) (fp 3 u [194, 181, 115]))) w' ∧ Below B w0 w' := by
  have hfz := hT.frozen 31
  obtain ⟨v0, hc0⟩ := hT.cell 31 (by omega)
  have H1 := hT.push (k := 31) (by simp) 115 115 rfl
  have H2 := Lib.hid H1.push2
  have hcp := copy_mu H1
  have Hb2 := Lib.hid (((h0.setCell (p := ⟨g, 31, none⟩) hB (.int .u8 115)).setCell (p := ⟨g, 29, none⟩) hB (.int .u8 194)).setCell (p := ⟨g, 30, none⟩) hB (.int .u8 181))
  have e3 : x < 1000000 := by omega
  have e4 : 1000 ≤ x := by omega
  have e5 : (x == 0) = false := by rw [beq_eq_false_iff_ne]; omega
  have HF := Lib.hid (fmtFrac_any g 29 3 u B [194, 181, 115] w0 _ hB Hb2.out H2.out (by simp) (by omega) (by omega))
  rw [← hx] at HF
  obtain ⟨s, hs9⟩ : ∃ s : Nat, s = u / 10 ^ 3 := ⟨_, rfl⟩
  have hsx : s < 1000 := by omega
  rw [← hs9] at HF ⊢
  clear hT h0 hu h9 hx H1 H2 Hb2 hs9 hs
  go_enter Tryz.func153, Tryz.ntmps153
  go_wp2_with fail
  refine HF.out.mono ?_
  rintro r w2 ⟨k2, rfl, hk2, hT, hb⟩
  clear HF
  have hl2' : k2 ≤ 32 := by omega
  have hl2 : 23 ≤ k2 := by have := fp_length 3 u [194, 181, 115]; simp at this; omega
  have HI := Lib.hid (fmtInt_any g k2 s B _ w0 w2 hB hb hT hk2 (by omega) (Nat.lt_of_lt_of_le (by omega : s < 10 ^ 3) (Nat.pow_le_pow_right (by decide) (by omega))) (by omega))
  have hd1 := dn_length 3 s (fp 3 u [194, 181, 115]) (by omega) (by omega)
  have hsl := slice224 g k2 hl2'
  clear hT hb
  go_wp2_with fail
  refine HI.out.mono ?_
  rintro r w3 ⟨k3, rfl, hk3, hT, hb⟩
  clear HI
  have hl3 : 17 ≤ k3 := by omega
  obtain ⟨q9, rfl⟩ : ∃ q, k3 = q + 1 := ⟨k3 - 1, by omega⟩
  have hfz9 := hT.frozen q9
  obtain ⟨v9, hc9⟩ := hT.cell q9 (by omega)
  have Hp9 := Lib.hid (hT.push (k := q9) (by omega) 45 45 rfl)
  have Hb9 := Lib.hid (hb.setCell (p := ⟨g, q9, none⟩) hB (.int .u8 45))
  have Hk9 := Lib.hid hk3
  have hq9 : q9 < 32 := by omega
  clear hT hb hk3
  go_wp2
  go_ret
  exact ⟨q9, by simp, by have := Hk9.out; first | omega | (rw [List.length_cons]; omega), Hp9.out, Hb9.out⟩
end Go.Proofs.YtchmhdmapknmfaaGreatDoor
