/-
  startsWithLowerCase, isDigit, stdFracSecond.
-/
import Derived.Test.YtchmhdmapknmfaaGreatDoorHa
namespace Go.Proofs.YtchmhdmapknmfaaGreatDoor
open Go.RowKit

set_option maxRecDepth 100000 in
set_option maxHeartbeats 400000 in
theorem lower_any (t : ByteArray) (w : World) : Calls Tryz.prog 183 #[.string t] w fun r w' => r = .returned (.bool (Ly.low (bts t))) ∧ w = w' := by
  by_cases h : t.size = 0
  · have hb : Ly.low (bts t) = false := by
      have : bts t = [] := List.eq_nil_of_length_eq_zero (by rw [bts_length]; exact h)
      rw [this]
      rfl
    have f0 : ((t.size : Int) == 0) = true := by rw [h]; rfl
    rw [hb]
    go_enter Tryz.func183, Tryz.ntmps183
    go_wp2
    go_ret
    exact ⟨rfl, rfl⟩
  · have hlt : 0 < t.size := by omega
    have hlt' : (0 : Int) < (t.size : Int) := by omega
    have f0 : ((t.size : Int) == 0) = false := by rw [beq_eq_false_iff_ne]; omega
    have hb : Ly.low (bts t) = (decide (97 ≤ t[0].toNat) && decide (t[0].toNat ≤ 122)) := by
      have := bts_drop t 0 hlt
      rw [List.drop_zero] at this
      rw [this]
      rfl
    rw [hb]
    clear hb
    by_cases h1 : 97 ≤ t[0].toNat
    · have g1 : (97 : Int) ≤ (t[0].toNat : Int) := by omega
      by_cases h2 : t[0].toNat ≤ 122
      · have g2 : (t[0].toNat : Int) ≤ 122 := by omega
        go_enter Tryz.func183, Tryz.ntmps183
        go_wp2
        go_ret
        exact ⟨by simp [h1, h2], rfl⟩
      · have g2 : (122 : Int) < (t[0].toNat : Int) := by omega
        go_enter Tryz.func183, Tryz.ntmps183
        go_wp2
        go_ret
        exact ⟨by simp [h1]; omega, rfl⟩
    · have g1 : (t[0].toNat : Int) < 97 := by omega
      go_enter Tryz.func183, Tryz.ntmps183
      go_wp2
      go_ret
      exact ⟨by simp, rfl⟩

set_option maxRecDepth 100000 in
set_option maxHeartbeats 400000 in
theorem digit_any (t : ByteArray) (j : Nat) (hj : j ≤ t.size) (w : World) : Calls Tryz.prog 184 #[.string t, .int .i64 (j : Int)] w fun r w' => r = .returned (.bool (Ly.dig ((bts t).drop j))) ∧ w = w' := by
  by_cases h : j = t.size
  · have hb : Ly.dig ((bts t).drop j) = false := by
      rw [List.drop_of_length_le (by rw [bts_length]; omega)]
      rfl
    have f0 : (t.size : Int) ≤ (j : Int) := by omega
    rw [hb]
    go_enter Tryz.func184, Tryz.ntmps184
    go_wp2
    go_ret
    exact ⟨rfl, rfl⟩
  · have hlt : j < t.size := by omega
    have hlt' : (j : Int) < (t.size : Int) := by omega
    have hb : Ly.dig ((bts t).drop j) = (decide (48 ≤ t[j].toNat) && decide (t[j].toNat ≤ 57)) := by
      rw [bts_drop t j hlt]
      rfl
    rw [hb]
    clear hb h
    by_cases h1 : 48 ≤ t[j].toNat
    · have g1 : (48 : Int) ≤ (t[j].toNat : Int) := by omega
      by_cases h2 : t[j].toNat ≤ 57
      · have g2 : (t[j].toNat : Int) ≤ 57 := by omega
        go_enter Tryz.func184, Tryz.ntmps184
        go_wp2
        go_ret
        exact ⟨by simp [h1, h2], rfl⟩
      · have g2 : (57 : Int) < (t[j].toNat : Int) := by omega
        go_enter Tryz.func184, Tryz.ntmps184
        go_wp2
        go_ret
        exact ⟨by simp [h1]; omega, rfl⟩
    · have g1 : (t[j].toNat : Int) < 48 := by omega
      go_enter Tryz.func184, Tryz.ntmps184
      go_wp2
      go_ret
      exact ⟨by simp, rfl⟩

/-- The code of parts of a second, as bits are laid. -/
def fracB (e : Int) (n : Int) : Int := bits BinOp.or IntKind.i64 e (wrap64 (bits BinOp.and IntKind.i64 n 4095 * 65536))

theorem fracB_all : (List.range 4096).all (fun n => (fracB 34 (n : Int) == 34 + (n : Int) * 65536) && (fracB 35 (n : Int) == 35 + (n : Int) * 65536) &&
    (bits BinOp.or IntKind.i64 (34 + (n : Int) * 65536) 268435456 == 34 + (n : Int) * 65536 + 268435456) && (bits BinOp.or IntKind.i64 (35 + (n : Int) * 65536) 268435456 == 35 + (n : Int) * 65536 + 268435456)) = true := by decide +kernel

theorem fracB_eq {e : Int} (he : e = 34 ∨ e = 35) {n : Nat} (hn : n ≤ 4095) : fracB e (n : Int) = e + (n : Int) * 65536 ∧ bits BinOp.or IntKind.i64 (e + (n : Int) * 65536) 268435456 = e + (n : Int) * 65536 + 268435456 := by
  have := List.all_eq_true.1 fracB_all n (List.mem_range.2 (by omega))
  simp only [Bool.and_eq_true, beq_iff_eq] at this
  rcases he with rfl | rfl
  · exact ⟨this.1.1.1, this.1.2⟩
  · exact ⟨this.1.1.2, this.2⟩

set_option maxRecDepth 100000 in
set_option maxHeartbeats 400000 in
theorem frac_any (c d : UInt8) (n : Nat) (e : Int) (he : e = if d = 57 then 35 else 34) (hc : c = 46 ∨ c = 44) (hn : n ≤ 4095) (w : World) :
    Calls Tryz.prog 159 #[.int .i64 e, .int .i64 (n : Int), .int .i64 (c.toNat : Int)] w fun r w' => r = .returned (.int .i64 (Ly.frac c d n)) ∧ w = w' := by
  have he2 : e = 34 ∨ e = 35 := by
    rw [he]
    split
    · exact .inr rfl
    · exact .inl rfl
  obtain ⟨h1, h2⟩ := fracB_eq he2 hn
  have hf : Ly.frac c d n = (if d = 57 then 35 else 34) + (n : Int) * 65536 + (if c = 44 then 268435456 else 0) := by
    unfold Ly.frac
    rw [show n % 4096 = n by omega]
  rw [← he] at hf
  have Hf := Lib.hid hf
  have H1 := Lib.hid h1
  have H2 := Lib.hid h2
  clear hf h1 h2 he he2
  unfold fracB at H1
  rcases hc with rfl | rfl
  · rw [show (((46 : UInt8).toNat : Nat) : Int) = 46 from rfl]
    go_enter Tryz.func159, Tryz.ntmps159
    go_wp2
    go_ret
    refine ⟨?_, rfl⟩
    rw [Hf.out]
    show Ending.returned (.int .i64 (bits BinOp.or IntKind.i64 e (wrap64 (bits BinOp.and IntKind.i64 (n : Int) 4095 * 65536)))) = _
    rw [H1.out, if_neg (by decide), Int.add_zero]
  · rw [show (((44 : UInt8).toNat : Nat) : Int) = 44 from rfl]
    go_enter Tryz.func159, Tryz.ntmps159
    go_wp2
    go_ret
    refine ⟨?_, rfl⟩
    rw [Hf.out]
    show Ending.returned (.int .i64 (bits BinOp.or IntKind.i64 (bits BinOp.or IntKind.i64 e (wrap64 (bits BinOp.and IntKind.i64 (n : Int) 4095 * 65536))) 268435456)) = _
    rw [H1.out, H2.out, if_pos trivial]
end Go.Proofs.YtchmhdmapknmfaaGreatDoor
