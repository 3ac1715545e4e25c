/-
  Plain: a duration's text, read by its parts: the digits, the unit, the sum.
-/
import Derived.Test.YtchmhdmapknmfaaGreatDoorDg
import Derived.Test.YtchmhdmapknmfaaGreatDoorPb
namespace Go.Proofs.YtchmhdmapknmfaaGreatDoor

/-- A digit. -/
def isD (c : UInt8) : Bool := decide (48 ≤ c.toNat) && decide (c.toNat ≤ 57)

/-- A number's letters read: the digits as a number, the scale, what is left. -/
def rd : List UInt8 → Nat → Nat → Bool → Nat × Nat × List UInt8
  | [], n, s, _ => (n, s, [])
  | c :: l, n, s, p => if c = 46 then rd l n s true else if isD c = true then rd l (n * 10 + (c.toNat - 48)) (if p then s * 10 else s) p else (n, s, c :: l)

theorem rd_dot (l : List UInt8) (n s : Nat) (p : Bool) : rd (46 :: l) n s p = rd l n s true := by
  simp only [rd, if_pos]

theorem rd_digit {c : UInt8} (h : isD c = true) (l : List UInt8) (n s : Nat) (p : Bool) : rd (c :: l) n s p = rd l (n * 10 + (c.toNat - 48)) (if p then s * 10 else s) p := by
  have hc : c ≠ 46 := by
    intro e
    subst e
    exact absurd h (by decide)
  simp only [rd, if_neg hc, if_pos h]

theorem rd_stop {c : UInt8} (h : isD c = false) (h1 : c ≠ 46) (l : List UInt8) (n s : Nat) (p : Bool) : rd (c :: l) n s p = (n, s, c :: l) := by
  simp only [rd, if_neg h1, h]
  rfl

theorem rd_ge : ∀ (l : List UInt8) (n s : Nat) (p : Bool), n ≤ (rd l n s p).1 ∧ s ≤ (rd l n s p).2.1
  | [], n, s, _ => ⟨Nat.le_refl _, Nat.le_refl _⟩
  | c :: l, n, s, p => by
    by_cases h1 : c = 46
    · subst h1
      rw [rd_dot]
      exact rd_ge l n s true
    · by_cases h2 : isD c = true
      · rw [rd_digit h2]
        have h := rd_ge l (n * 10 + (c.toNat - 48)) (if p = true then s * 10 else s) p
        have h3 : s ≤ (if p = true then s * 10 else s) := by split <;> omega
        exact ⟨Nat.le_trans (by omega) h.1, Nat.le_trans h3 h.2⟩
      · rw [rd_stop (by simpa using h2) h1]
        exact ⟨Nat.le_refl _, Nat.le_refl _⟩

theorem dg_toNat (v : Nat) : (dg v).toNat = 48 + v % 10 := by
  unfold dg
  rw [UInt8.toNat_ofNat']
  omega

theorem dg_isD (v : Nat) : isD (dg v) = true := by
  unfold isD
  rw [dg_toNat]
  simp
  omega

theorem rd_dg (v : Nat) (out : List UInt8) (n s : Nat) (p : Bool) : rd (dg v :: out) n s p = rd out (n * 10 + v % 10) (if p then s * 10 else s) p := by
  rw [rd_digit (dg_isD v), dg_toNat, Nat.add_sub_cancel_left]

theorem rd_dl (v : Nat) (out : List UInt8) : rd (dl v out) 0 1 false = rd out v 1 false := by
  induction v using Nat.strongRecOn generalizing out with
  | _ v ih =>
    by_cases h : v = 0
    · subst h
      rw [dl_zero]
    · rw [dl_step (by omega), ih (v / 10) (by omega), rd_dg, show v / 10 * 10 + v % 10 = v by omega]
      rfl

theorem rd_dn (v : Nat) (out : List UInt8) : rd (dn v out) 0 1 false = rd out v 1 false := by
  unfold dn
  split
  · rename_i h
    subst h
    rw [rd_digit (by decide)]
    rfl
  · exact rd_dl v out

theorem mod_step (v n : Nat) : v % 10 ^ (n + 1) = v % 10 + 10 * (v / 10 % 10 ^ n) := by
  rw [Nat.pow_succ, Nat.mul_comm, Nat.mod_mul]

theorem fr_true : ∀ (n v : Nat) (out : List UInt8), (fr n v true out).2 = true ∧ ∀ q s, rd (fr n v true out).1 q s true = rd out (q * 10 ^ n + v % 10 ^ n) (s * 10 ^ n) true
  | 0, v, out => by
    refine ⟨rfl, fun q s => ?_⟩
    show rd out q s true = _
    rw [Nat.pow_zero, Nat.mod_one, Nat.mul_one, Nat.mul_one, Nat.add_zero]
  | n + 1, v, out => by
    have h := fr_true n (v / 10) (dg v :: out)
    have e : fr (n + 1) v true out = fr n (v / 10) true (dg v :: out) := by simp [fr]
    rw [e]
    refine ⟨h.1, fun q s => ?_⟩
    rw [h.2, rd_dg, mod_step, if_pos rfl]
    congr 1
    · rw [Nat.pow_succ, ← Nat.mul_assoc]
      omega
    · rw [Nat.pow_succ, Nat.mul_assoc]

theorem fr_false : ∀ (n v : Nat) (out : List UInt8), (v % 10 ^ n = 0 ∧ fr n v false out = (out, false)) ∨
    ((fr n v false out).2 = true ∧ ∃ t, t < n ∧ 10 ^ t ∣ v ∧ ∀ q, rd (fr n v false out).1 q 1 true = rd out (q * 10 ^ (n - t) + v % 10 ^ n / 10 ^ t) (10 ^ (n - t)) true)
  | 0, v, out => .inl ⟨by rw [Nat.pow_zero, Nat.mod_one], rfl⟩
  | n + 1, v, out => by
    by_cases h : v % 10 = 0
    · have e : fr (n + 1) v false out = fr n (v / 10) false out := by simp [fr, h]
      rw [e, mod_step, h, Nat.zero_add]
      rcases fr_false n (v / 10) out with ⟨h1, h2⟩ | ⟨h1, t, ht, hd, hq⟩
      · exact .inl ⟨by rw [h1], h2⟩
      · refine .inr ⟨h1, t + 1, by omega, ?_, fun q => ?_⟩
        · obtain ⟨k, hk⟩ := hd
          exact ⟨k, by rw [Nat.pow_succ, Nat.mul_comm (10 ^ t) 10, Nat.mul_assoc, ← hk]; omega⟩
        · rw [hq, Nat.pow_succ 10 t, Nat.mul_comm (10 ^ t) 10, Nat.mul_div_mul_left _ _ (by omega : 0 < 10), show n + 1 - (t + 1) = n - t by omega]
    · have hb : (v % 10 != 0) = true := by simpa using h
      have e : fr (n + 1) v false out = fr n (v / 10) true (dg v :: out) := by
        show fr n (v / 10) (false || v % 10 != 0) (if (false || v % 10 != 0) = true then dg v :: out else out) = _
        rw [hb]
        rfl
      have hf := fr_true n (v / 10) (dg v :: out)
      rw [e]
      refine .inr ⟨hf.1, 0, by omega, ⟨v, by simp⟩, fun q => ?_⟩
      rw [hf.2, rd_dg, mod_step, if_pos rfl, Nat.sub_zero, Nat.pow_zero, Nat.div_one]
      congr 1
      · rw [Nat.pow_succ, ← Nat.mul_assoc]
        omega
      · rw [Nat.pow_succ, Nat.one_mul]

/-- A part of a text: a number with places behind a period. -/
theorem part_rd (n v Q : Nat) (out : List UInt8) (hout : ∀ q s p, rd out q s p = (q, s, out)) :
    ∃ N S, rd (dn Q (fp n v out)) 0 1 false = (N, S, out) ∧ 10 ^ n / S * N = Q * 10 ^ n + v % 10 ^ n ∧ N ≤ Q * 10 ^ n + v % 10 ^ n ∧ 1 ≤ S ∧ S ≤ 10 ^ n := by
  rw [rd_dn]
  have hp : 0 < 10 ^ n := Nat.pow_pos (by omega)
  unfold fp
  rcases fr_false n v out with ⟨h0, h1⟩ | ⟨h2, t, ht, hd, hq⟩
  · refine ⟨Q, 1, ?_, ?_, ?_, Nat.le_refl _, hp⟩
    · rw [h1]
      exact hout _ _ _
    · rw [h0, Nat.div_one, Nat.add_zero, Nat.mul_comm]
    · rw [h0, Nat.add_zero]
      exact Nat.le_mul_of_pos_right _ hp
  · have et : 10 ^ t * 10 ^ (n - t) = 10 ^ n := by rw [← Nat.pow_add]; congr 1; omega
    have hS : 0 < 10 ^ (n - t) := Nat.pow_pos (by omega)
    have ht0 : 0 < 10 ^ t := Nat.pow_pos (by omega)
    have hdv : 10 ^ t ∣ v % 10 ^ n := (Nat.dvd_mod_iff ⟨_, et.symm⟩).2 hd
    have hval : 10 ^ t * (Q * 10 ^ (n - t) + v % 10 ^ n / 10 ^ t) = Q * 10 ^ n + v % 10 ^ n := by
      rw [Nat.mul_add, Nat.mul_div_cancel' hdv, Nat.mul_left_comm, et]
    refine ⟨Q * 10 ^ (n - t) + v % 10 ^ n / 10 ^ t, 10 ^ (n - t), ?_, ?_, ?_, hS, Nat.pow_le_pow_right (by omega) (by omega)⟩
    · rw [if_pos h2, rd_dot, hq, hout]
    · rw [← et, Nat.mul_div_cancel _ hS, et, hval]
    · rw [← hval]
      exact Nat.le_mul_of_pos_left _ ht0

/-- A unit: its letters, how many nanoseconds it has; what stands behind it. -/
inductive Un : List UInt8 → Nat → List UInt8 → Prop
  | ns (r : List UInt8) : Un [110, 115] 1 r
  | us (r : List UInt8) : Un [194, 181, 115] 1000 r
  | ms (r : List UInt8) : Un [109, 115] 1000000 r
  | s (r : List UInt8) : Un [115] 1000000000 r
  | m (r : List UInt8) : (∀ c l, r = c :: l → c ≠ 115) → Un [109] 60000000000 r
  | h (r : List UInt8) : Un [104] 3600000000000 r

/-- A text of parts, and their sum. -/
inductive Pts : List UInt8 → Nat → Prop
  | nil : Pts [] 0
  | cons (l U r : List UInt8) (N S un v t : Nat) : rd l 0 1 false = (N, S, U ++ r) → Un U un r → 0 < l.length → (U ++ r).length < l.length → 1 ≤ S → S ≤ un → un / S * N = v → N ≤ v → Pts r t → Pts l (v + t)

theorem dl_len (v : Nat) (out : List UInt8) : out.length ≤ (dl v out).length := by
  induction v using Nat.strongRecOn generalizing out with
  | _ v ih =>
    by_cases h : v = 0
    · subst h
      rw [dl_zero]
      exact Nat.le_refl _
    · rw [dl_step (by omega)]
      exact Nat.le_trans (by simp) (ih (v / 10) (by omega) _)

theorem dn_len (v : Nat) (out : List UInt8) : out.length < (dn v out).length := by
  unfold dn
  split
  · simp
  · rw [dl_step (by omega)]
    exact Nat.lt_of_lt_of_le (by simp) (dl_len _ _)

theorem fr_len : ∀ (n v : Nat) (p : Bool) (out : List UInt8), out.length ≤ (fr n v p out).1.length
  | 0, _, _, out => Nat.le_refl _
  | n + 1, v, p, out => by
    have h := fr_len n (v / 10) (p || v % 10 != 0) (if p || v % 10 != 0 then dg v :: out else out)
    have h1 : out.length ≤ (if (p || v % 10 != 0) = true then dg v :: out else out).length := by split <;> simp
    exact Nat.le_trans h1 h

theorem fp_len (n v : Nat) (out : List UInt8) : out.length ≤ (fp n v out).length := by
  have := fr_len n v false out
  unfold fp
  split
  · simp only [List.length_cons]
    omega
  · exact this

theorem Un.rd {U r : List UInt8} {un : Nat} (h : Un U un r) (q s : Nat) (p : Bool) : rd (U ++ r) q s p = (q, s, U ++ r) := by
  cases h <;> exact rd_stop (by decide) (by decide) _ _ _ _

theorem Pts.frac (n v Q : Nat) {U r : List UInt8} (h : Un U (10 ^ n) r) {t : Nat} (hr : Pts r t) : Pts (dn Q (fp n v (U ++ r))) (Q * 10 ^ n + v % 10 ^ n + t) := by
  obtain ⟨N, S, h1, h2, h3, h4, h5⟩ := part_rd n v Q (U ++ r) h.rd
  have hl : (U ++ r).length < (dn Q (fp n v (U ++ r))).length := Nat.lt_of_le_of_lt (fp_len n v _) (dn_len _ _)
  exact .cons _ U r N S _ _ t h1 h (by omega) hl h4 h5 h2 h3 hr

theorem Pts.whole (Q un : Nat) {U r : List UInt8} (h : Un U un r) (hu : 0 < un) {t : Nat} (hr : Pts r t) : Pts (dn Q (U ++ r)) (un * Q + t) :=
  .cons _ U r Q 1 un _ t (by rw [rd_dn, h.rd]) h (by have := dn_len Q (U ++ r); omega) (dn_len _ _) (Nat.le_refl _) hu (by rw [Nat.div_one]) (Nat.le_mul_of_pos_left _ hu) hr

theorem dl_head (v : Nat) (out : List UInt8) (h : v ≠ 0) : ∀ c l, dl v out = c :: l → c ≠ 115 := by
  induction v using Nat.strongRecOn generalizing out with
  | _ v ih =>
    intro c l e
    rw [dl_step (by omega)] at e
    by_cases hz : v / 10 = 0
    · rw [hz, dl_zero] at e
      obtain ⟨rfl, -⟩ := List.cons.inj e
      intro e2
      have := congrArg UInt8.toNat e2
      rw [dg_toNat] at this
      have t : (115 : UInt8).toNat = 115 := rfl
      omega
    · exact ih (v / 10) (by omega) _ hz c l e

theorem dn_head (v : Nat) (out : List UInt8) : ∀ c l, dn v out = c :: l → c ≠ 115 := by
  intro c l e
  unfold dn at e
  split at e
  · obtain ⟨rfl, -⟩ := List.cons.inj e
    decide
  · rename_i h
    exact dl_head v out h c l e

theorem fp_zero (v : Nat) (out : List UInt8) : fp 0 v out = out := by
  simp [fp, fr]

theorem un_ns : Un [110, 115] (10 ^ 0) [] := .ns []
theorem un_us : Un [194, 181, 115] (10 ^ 3) [] := by
  have h : (10 : Nat) ^ 3 = 1000 := by decide
  rw [h]
  exact .us []
theorem un_ms : Un [109, 115] (10 ^ 6) [] := by
  have h : (10 : Nat) ^ 6 = 1000000 := by decide
  rw [h]
  exact .ms []
theorem un_s : Un [115] (10 ^ 9) [] := by
  have h : (10 : Nat) ^ 9 = 1000000000 := by decide
  rw [h]
  exact .s []

theorem Pts.last (n v Q : Nat) {U : List UInt8} (h : Un U (10 ^ n) []) : Pts (dn Q (fp n v U)) (Q * 10 ^ n + v % 10 ^ n) := by
  have := Pts.frac n v Q h .nil
  rw [List.append_nil, Nat.add_zero] at this
  exact this

/-- A duration's text without its sign has parts whose sum it is. -/
theorem du_pts (u : Nat) : Pts (du u) u := by
  unfold du
  have hs : ∀ v, Pts (dn (v / 10 ^ 9 % 60) (fp 9 v [115])) (v / 10 ^ 9 % 60 * 10 ^ 9 + v % 10 ^ 9) := fun v => Pts.last 9 v _ un_s
  have hm : ∀ v M, Pts (dn M (109 :: dn (v / 10 ^ 9 % 60) (fp 9 v [115]))) (60000000000 * M + (v / 10 ^ 9 % 60 * 10 ^ 9 + v % 10 ^ 9)) := fun v M =>
    Pts.whole (U := [109]) (r := dn (v / 10 ^ 9 % 60) (fp 9 v [115])) M 60000000000 (.m _ (dn_head _ _)) (by omega) (hs v)
  by_cases c0 : u = 0
  · rw [if_pos c0]
    subst c0
    exact Pts.whole (U := [115]) (r := []) 0 1000000000 (.s []) (by omega) .nil
  rw [if_neg c0]
  by_cases c1 : u < 1000
  · rw [if_pos c1]
    have h := Pts.last 0 u (u / 10 ^ 0) un_ns
    have e : u / 10 ^ 0 * 10 ^ 0 + u % 10 ^ 0 = u := by omega
    rw [e] at h
    exact h
  rw [if_neg c1]
  by_cases c2 : u < 1000000
  · rw [if_pos c2]
    have h := Pts.last 3 u (u / 10 ^ 3) un_us
    have e : u / 10 ^ 3 * 10 ^ 3 + u % 10 ^ 3 = u := by omega
    rw [e] at h
    exact h
  rw [if_neg c2]
  by_cases c3 : u < 1000000000
  · rw [if_pos c3]
    have h := Pts.last 6 u (u / 10 ^ 6) un_ms
    have e : u / 10 ^ 6 * 10 ^ 6 + u % 10 ^ 6 = u := by omega
    rw [e] at h
    exact h
  rw [if_neg c3]
  by_cases c4 : u / 10 ^ 9 < 60
  · rw [if_pos c4]
    have h := hs u
    have e : u / 10 ^ 9 % 60 * 10 ^ 9 + u % 10 ^ 9 = u := by omega
    rw [e] at h
    exact h
  rw [if_neg c4]
  by_cases c5 : u / 10 ^ 9 / 60 < 60
  · rw [if_pos c5]
    have h := hm u (u / 10 ^ 9 / 60 % 60)
    have e : 60000000000 * (u / 10 ^ 9 / 60 % 60) + (u / 10 ^ 9 % 60 * 10 ^ 9 + u % 10 ^ 9) = u := by omega
    rw [e] at h
    exact h
  rw [if_neg c5]
  have h := Pts.whole (U := [104]) (r := dn (u / 10 ^ 9 / 60 % 60) (109 :: dn (u / 10 ^ 9 % 60) (fp 9 u [115]))) (u / 10 ^ 9 / 60 / 60) 3600000000000 (.h _) (by omega) (hm u (u / 10 ^ 9 / 60 % 60))
  have e : 3600000000000 * (u / 10 ^ 9 / 60 / 60) + (60000000000 * (u / 10 ^ 9 / 60 % 60) + (u / 10 ^ 9 % 60 * 10 ^ 9 + u % 10 ^ 9)) = u := by omega
  rw [e] at h
  exact h
end Go.Proofs.YtchmhdmapknmfaaGreatDoor
