/-
  Plain: texts that stand between quotation marks as they are; a duration's text is one.
-/
import Derived.Test.YtchmhdmapknmfaaGreatDoorEa
namespace Go.Proofs.YtchmhdmapknmfaaGreatDoor

/-- A text without control characters, quotation marks and backslashes, that is UTF-8. -/
inductive Clean : List UInt8 → Prop
  | nil : Clean []
  | plain (c : UInt8) (l : List UInt8) : 32 ≤ c.toNat → c.toNat < 128 → c ≠ 34 → c ≠ 92 → Clean l → Clean (c :: l)
  | good (c : UInt8) (l : List UInt8) : 128 ≤ c.toNat → Pl.bad (c :: l) = false → Clean ((c :: l).drop (Pl.dec (c :: l)).2) → Clean (c :: l)

theorem Clean.esc {l : List UInt8} (h : Clean l) : Pl.esc l = l := by
  induction h with
  | nil => rfl
  | plain c l h1 h2 h3 h4 _ ih => rw [Pl.esc_plain h2 (by simp [Pl.plainB, h1, h3, h4]), ih]
  | good c l h1 h2 _ ih => rw [Pl.esc_good h1 h2, ih, List.take_append_drop]

theorem Clean.dg {l : List UInt8} (h : Clean l) (v : Nat) : Clean (dg v :: l) := by
  have e := dg_toNat v
  have t34 : (34 : UInt8).toNat = 34 := rfl
  have t92 : (92 : UInt8).toNat = 92 := rfl
  exact .plain _ l (by omega) (by omega) (Pl.ne_of_toNat (by omega)) (Pl.ne_of_toNat (by omega)) h

theorem Clean.dl {l : List UInt8} (h : Clean l) (v : Nat) : Clean (dl v l) := by
  induction v using Nat.strongRecOn generalizing l with
  | _ v ih =>
    by_cases hz : v = 0
    · subst hz
      rw [dl_zero]
      exact h
    · rw [dl_step (by omega)]
      exact ih (v / 10) (by omega) (h.dg v)

theorem Clean.dn {l : List UInt8} (h : Clean l) (v : Nat) : Clean (dn v l) := by
  unfold Go.Proofs.YtchmhdmapknmfaaGreatDoor.dn
  split
  · exact .plain 48 l (by decide) (by decide) (by decide) (by decide) h
  · exact h.dl v

theorem Clean.fr {l : List UInt8} (h : Clean l) : ∀ (n v : Nat) (p : Bool), Clean (fr n v p l).1 := by
  intro n
  induction n generalizing l with
  | zero => intro v p; exact h
  | succ n ih =>
    intro v p
    have h1 : Clean (if (p || v % 10 != 0) = true then Go.Proofs.YtchmhdmapknmfaaGreatDoor.dg v :: l else l) := by
      split
      · exact h.dg v
      · exact h
    exact ih h1 (v / 10) (p || v % 10 != 0)

theorem Clean.fp {l : List UInt8} (h : Clean l) (n v : Nat) : Clean (fp n v l) := by
  have := h.fr n v false
  unfold Go.Proofs.YtchmhdmapknmfaaGreatDoor.fp
  split
  · exact .plain 46 _ (by decide) (by decide) (by decide) (by decide) this
  · exact this

theorem clean_s : Clean [115] := .plain 115 [] (by decide) (by decide) (by decide) (by decide) .nil
theorem clean_us : Clean [194, 181, 115] := .good 194 [181, 115] (by decide) (by decide) clean_s

theorem du_clean (u : Nat) : Clean (du u) := by
  have hs : ∀ v, Clean (dn (v / 10 ^ 9 % 60) (fp 9 v [115])) := fun v => (clean_s.fp 9 v).dn _
  have hm : ∀ v M, Clean (dn M (109 :: dn (v / 10 ^ 9 % 60) (fp 9 v [115]))) := fun v M => (Clean.plain 109 _ (by decide) (by decide) (by decide) (by decide) (hs v)).dn M
  unfold du
  split
  · exact .plain 48 _ (by decide) (by decide) (by decide) (by decide) clean_s
  split
  · exact ((Clean.plain 110 _ (by decide) (by decide) (by decide) (by decide) clean_s).fp 0 u).dn _
  split
  · exact (clean_us.fp 3 u).dn _
  split
  · exact ((Clean.plain 109 _ (by decide) (by decide) (by decide) (by decide) clean_s).fp 6 u).dn _
  split
  · exact hs u
  split
  · exact hm u _
  · exact (Clean.plain 104 _ (by decide) (by decide) (by decide) (by decide) (hm u _)).dn _

theorem dt_clean (d : Int) : Clean (dt d) := by
  unfold dt
  split
  · exact .plain 45 _ (by decide) (by decide) (by decide) (by decide) (du_clean _)
  · exact du_clean _

theorem du_length (u : Nat) (h : u ≤ 9223372036854775808) : (du u).length ≤ 100 := by
  have hd : ∀ v (out : List UInt8), v ≤ u → (dn v out).length ≤ 19 + out.length := fun v out hv => dn_length 19 v out (by omega) (by omega)
  have hs : (dn (u / 10 ^ 9 % 60) (fp 9 u [115])).length ≤ 30 := by
    have h1 := hd (u / 10 ^ 9 % 60) (fp 9 u [115]) (by omega)
    have h2 := fp_length 9 u [115]
    have e : ([115] : List UInt8).length = 1 := rfl
    omega
  have hm : ∀ M, M ≤ u → (dn M (109 :: dn (u / 10 ^ 9 % 60) (fp 9 u [115]))).length ≤ 50 := by
    intro M hM
    have h1 := hd M (109 :: dn (u / 10 ^ 9 % 60) (fp 9 u [115])) hM
    rw [List.length_cons] at h1
    omega
  unfold du
  split
  · simp
  split
  · have h1 := hd (u / 10 ^ 0) (fp 0 u [110, 115]) (by omega)
    have h2 := fp_length 0 u [110, 115]
    have e : ([110, 115] : List UInt8).length = 2 := rfl
    omega
  split
  · have h1 := hd (u / 10 ^ 3) (fp 3 u [194, 181, 115]) (by omega)
    have h2 := fp_length 3 u [194, 181, 115]
    have e : ([194, 181, 115] : List UInt8).length = 3 := rfl
    omega
  split
  · have h1 := hd (u / 10 ^ 6) (fp 6 u [109, 115]) (by omega)
    have h2 := fp_length 6 u [109, 115]
    have e : ([109, 115] : List UInt8).length = 2 := rfl
    omega
  split
  · omega
  split
  · have := hm (u / 10 ^ 9 / 60 % 60) (by omega)
    omega
  · have h1 := hm (u / 10 ^ 9 / 60 % 60) (by omega)
    have h2 := hd (u / 10 ^ 9 / 60 / 60) (104 :: dn (u / 10 ^ 9 / 60 % 60) (109 :: dn (u / 10 ^ 9 % 60) (fp 9 u [115]))) (by omega)
    rw [List.length_cons] at h2
    omega

theorem dt_length (d : Int) (h0 : -9223372036854775808 ≤ d) (h1 : d ≤ 9223372036854775807) : (dt d).length ≤ 101 := by
  have := du_length d.natAbs (by omega)
  unfold dt
  split
  · rw [List.length_cons]
    omega
  · omega
end Go.Proofs.YtchmhdmapknmfaaGreatDoor
