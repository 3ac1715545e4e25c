/-
  fmtFrac over the array of 32 bytes.
-/
import Derived.Test.YtchmhdmapknmfaaGreatDoorDa
namespace Go.Proofs.YtchmhdmapknmfaaGreatDoor
open Go.RowKit

/-- What the loop of fmtFrac keeps. -/
def FrRel (K g prec v : Nat) (fin : List UInt8 × Bool) (B : Nat) (w0 : World) (v1 v8 v9 v10 : Value) (w : World) : Prop :=
  ∃ (k m j : Nat) (p : Bool) (out : List UInt8), v1 = .int .u64 m ∧ v8 = .int .i64 k ∧ v9 = .bool p ∧ v10 = .int .i64 j ∧ j ≤ prec ∧ k ≤ K ∧ k + out.length = 32 ∧ prec - j + 1 ≤ k ∧ m ≤ 18446744073709551615 ∧ m = v / 10 ^ j ∧ fr (prec - j) m p out = fin ∧ Tl g out w ∧ Below B w0 w

theorem fr_step {n m : Nat} {p : Bool} {out : List UInt8} (h : 0 < n) : fr n m p out = fr (n - 1) (m / 10) (p || m % 10 != 0) (if p || m % 10 != 0 then dg m :: out else out) := by
  obtain ⟨j, rfl⟩ : ∃ j, n = j + 1 := ⟨n - 1, by omega⟩
  rw [Nat.add_sub_cancel]
  rfl

/-- The rest behind the loop: with a period or without. -/
theorem fp_true {n v : Nat} {out : List UInt8} {o : List UInt8} (h : (o, true) = fr n v false out) : fp n v out = 46 :: o := by unfold fp; rw [← h]; rfl
theorem fp_false {n v : Nat} {out : List UInt8} {o : List UInt8} (h : (o, false) = fr n v false out) : fp n v out = o := by unfold fp; rw [← h]; rfl

theorem fr_length : ∀ (n v : Nat) (p : Bool) (out : List UInt8), (fr n v p out).1.length ≤ n + out.length
  | 0, _, _, out => by simp [fr]
  | n + 1, v, p, out => by
    have h := fr_length n (v / 10) (p || v % 10 != 0) (if p || v % 10 != 0 then dg v :: out else out)
    have h1 : (if (p || v % 10 != 0) = true then dg v :: out else out).length ≤ 1 + out.length := by split <;> simp <;> omega
    show (fr n (v / 10) (p || v % 10 != 0) (if (p || v % 10 != 0) = true then dg v :: out else out)).1.length ≤ _
    omega

theorem fp_length (n v : Nat) (out : List UInt8) : (fp n v out).length ≤ n + 1 + out.length := by
  have := fr_length n v false out
  unfold fp
  split <;> simp <;> omega

set_option maxRecDepth 100000 in
set_option maxHeartbeats 1000000 in
theorem fmtFrac_any (g k prec n B : Nat) (out : List UInt8) (w0 w : World) (hB : B ≤ g) (h0 : Below B w0 w) (hT : Tl g out w) (hk : k + out.length = 32) (hk0 : prec + 1 ≤ k) (hn64 : n ≤ 18446744073709551615) :
    Calls Tryz.prog 173 #[.slice (some ⟨g, 0, none⟩) k 32, .int .u64 n, .int .i64 prec] w fun r w' => ∃ k' : Nat, r = .returned (.tuple #[.int .i64 k', .int .u64 ((n / 10 ^ prec : Nat) : Int)]) ∧ k' + (fp prec n out).length = 32 ∧ Tl g (fp prec n out) w' ∧ Below B w0 w' := by
  have HT := Lib.hid hT
  have H0 := Lib.hid h0
  have hk32 : k ≤ 32 := by omega
  clear hT h0
  go_enter Tryz.func173, Tryz.ntmps173
  go_wp2_with fail
  go_loopw [1, 8, 9, 10] (fun v1 v8 v9 v10 wr => FrRel k g prec n (fr prec n false out) B w0 v1 v8 v9 v10 wr) (fun _ _ _ v10 _ => prec - (intOf v10).toNat)
  case atStart => exact ⟨k, n, 0, false, out, rfl, rfl, rfl, rfl, Nat.zero_le _, Nat.le_refl _, hk, by omega, hn64, by simp, rfl, HT.out, H0.out⟩
  case round =>
    obtain ⟨k1, m, j, p, out', rfl, rfl, rfl, rfl, hj, hkk, hk', hroom, h64, hm, hfin, hT, hb⟩ := hrel
    have HT' := Lib.hid hT
    have Hb := Lib.hid hb
    by_cases hp : j < prec
    · have hfz := hT.frozen (k1 - 1)
      obtain ⟨v0, hc0⟩ := hT.cell (k1 - 1) (by omega)
      have Hp := Lib.hid (fun x hx => hT.push (k := k1 - 1) (by omega) (dg m) x hx)
      have hdiv : (m : Int).tdiv 10 = ((m / 10 : Nat) : Int) := by rw [Int.tdiv_eq_ediv_of_nonneg (by omega)]; omega
      have Hm := Lib.hid (show m / 10 = n / 10 ^ (j + 1) by rw [hm, Nat.div_div_eq_div_mul, Nat.pow_succ])
      rw [fr_step (by omega), show prec - j - 1 = prec - (j + 1) by omega] at hfin
      cases p with
      | true =>
        have Hfin := Lib.hid (show fr (prec - (j + 1)) (m / 10) true (dg m :: out') = fr prec n false out by rw [← hfin]; simp)
        clear hT hb hfin hm
        go_wp2
        exact ⟨⟨k1 - 1, m / 10, j + 1, true, dg m :: out', by go_num, by go_num, rfl, by go_num, by omega, by omega, by simp; omega, by omega, by omega, Hm.out, Hfin.out, Hp.out _ (dg_val m), Hb.out.setCell (p := ⟨g, k1 - 1, none⟩) hB _⟩, by simp [intOf]; omega⟩
      | false =>
        by_cases hz : m % 10 = 0
        · have f0 : ((m : Int) % 10 == 0) = true := by rw [beq_iff_eq]; omega
          have f1 : (m : Int) % 10 = 0 := by omega
          have Hfin := Lib.hid (show fr (prec - (j + 1)) (m / 10) false out' = fr prec n false out by rw [← hfin]; simp [hz])
          clear hT hb hfin hm hz
          go_wp2
          exact ⟨⟨k1, m / 10, j + 1, false, out', by go_num, by go_num, rfl, by go_num, by omega, by omega, by omega, by omega, by omega, Hm.out, Hfin.out, HT'.out, Hb.out⟩, by simp [intOf]; omega⟩
        · have f0 : ((m : Int) % 10 == 0) = false := by rw [beq_eq_false_iff_ne]; omega
          have F1 := Lib.hid (show ((m : Int) % 10 != 0) = true by simp [bne, f0])
          have hz' : (m % 10 != 0) = true := by simpa using hz
          have Hfin := Lib.hid (show fr (prec - (j + 1)) (m / 10) true (dg m :: out') = fr prec n false out by rw [← hfin, hz']; rfl)
          clear hT hb hfin hm hz'
          go_wp2
          exact ⟨⟨k1 - 1, m / 10, j + 1, true, dg m :: out', by go_num, by go_num, by rw [F1.out], by go_num, by omega, by omega, by simp; omega, by omega, by omega, Hm.out, Hfin.out, Hp.out _ (dg_val m), Hb.out.setCell (p := ⟨g, k1 - 1, none⟩) hB _⟩, by simp [intOf]; omega⟩
    · have hje : j = prec := by omega
      subst hje
      rw [Nat.sub_self] at hfin
      have Hm := Lib.hid hm
      cases p with
      | true =>
        have hfz := hT.frozen (k1 - 1)
        obtain ⟨v0, hc0⟩ := hT.cell (k1 - 1) (by omega)
        have Hp := Lib.hid (fun x hx => hT.push (k := k1 - 1) (by omega) 46 x hx)
        have Hf := Lib.hid (fp_true (o := out') hfin)
        clear hT hb hfin hm
        go_wp2
        go_ret2
        exact ⟨k1 - 1, by rw [← Hm.out]; show Ending.returned (.tuple #[.int .i64 ((k1 : Int) - 1), .int .u64 (m : Int)]) = _; rw [show (k1 : Int) - 1 = ((k1 - 1 : Nat) : Int) by omega], by rw [Hf.out]; simp; omega, by rw [Hf.out]; exact Hp.out _ rfl, Hb.out.setCell (p := ⟨g, k1 - 1, none⟩) hB _⟩
      | false =>
        have Hf := Lib.hid (fp_false (o := out') hfin)
        clear hT hb hfin hm
        go_wp2
        go_ret2
        exact ⟨k1, by rw [← Hm.out]; rfl, by rw [Hf.out]; omega, by rw [Hf.out]; exact HT'.out, Hb.out⟩
end Go.Proofs.YtchmhdmapknmfaaGreatDoor
