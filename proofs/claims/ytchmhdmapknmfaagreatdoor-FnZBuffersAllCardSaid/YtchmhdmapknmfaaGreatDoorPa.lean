/-
  Plain: UTF-8 read off a list of bytes, and what the JSON encoder makes of a text between quotes.
-/
import Derived.Lib.DecodeN
namespace Go.Proofs.YtchmhdmapknmfaaGreatDoor.Pl
open Go.Lib

/-- A byte of a list as a number; 0 beyond its end. -/
def at0 (l : List UInt8) (i : Nat) : Nat := (l.getD i 0).toNat

theorem at0_lt (l : List UInt8) (i : Nat) : at0 l i < 256 := (l.getD i 0).toNat_lt

/-- What is decoded at the head of a list: the rune, and how many bytes it has. -/
def dec (l : List UInt8) : Nat × Nat := if l = [] then (65533, 0) else decodeN l.length (at0 l 0) (at0 l 1) (at0 l 2) (at0 l 3)

/-- Nothing valid begins here. -/
def bad (l : List UInt8) : Bool := (dec l).1 == 65533 && (dec l).2 == 1

theorem decodeN_good {n b0 b1 b2 b3 r k : Nat} (h : decodeN n b0 b1 b2 b3 = (r, k)) (h0 : 128 ≤ b0) (hg : ¬ (r = 65533 ∧ k = 1)) :
    (k = 2 ∧ 2 ≤ n ∧ ∀ n' b2' b3', 2 ≤ n' → decodeN n' b0 b1 b2' b3' = (r, k)) ∨ (k = 3 ∧ 3 ≤ n ∧ ∀ n' b3', 3 ≤ n' → decodeN n' b0 b1 b2 b3' = (r, k)) ∨
      (k = 4 ∧ 4 ≤ n ∧ ∀ n', 4 ≤ n' → decodeN n' b0 b1 b2 b3 = (r, k)) := by
  unfold decodeN at h
  rw [if_neg (by omega)] at h
  by_cases c1 : b0 / 32 = 6 ∧ (1 < n ∧ b1 / 64 = 2)
  · rw [if_pos c1] at h
    by_cases d : b0 % 32 * 64 + b1 % 64 ≥ 128
    · rw [if_pos d] at h
      cases h
      refine Or.inl ⟨rfl, by omega, fun n' b2' b3' hn => ?_⟩
      unfold decodeN
      rw [if_neg (by omega), if_pos ⟨c1.1, by omega, c1.2.2⟩, if_pos d]
    · rw [if_neg d] at h
      cases h
      exact absurd ⟨rfl, rfl⟩ hg
  rw [if_neg c1] at h
  by_cases c2 : b0 / 16 = 14 ∧ (1 < n ∧ b1 / 64 = 2) ∧ (2 < n ∧ b2 / 64 = 2)
  · rw [if_pos c2] at h
    split at h
    · rename_i d
      cases h
      refine Or.inr (Or.inl ⟨rfl, by omega, fun n' b3' hn => ?_⟩)
      unfold decodeN
      rw [if_neg (by omega), if_neg (by omega), if_pos ⟨c2.1, ⟨by omega, c2.2.1.2⟩, by omega, c2.2.2.2⟩, if_pos d]
    · cases h
      exact absurd ⟨rfl, rfl⟩ hg
  rw [if_neg c2] at h
  by_cases c3 : b0 / 8 = 30 ∧ (1 < n ∧ b1 / 64 = 2) ∧ (2 < n ∧ b2 / 64 = 2) ∧ (3 < n ∧ b3 / 64 = 2)
  · rw [if_pos c3] at h
    split at h
    · rename_i d
      cases h
      refine Or.inr (Or.inr ⟨rfl, by omega, fun n' hn => ?_⟩)
      unfold decodeN
      rw [if_neg (by omega), if_neg (by omega), if_neg (by omega), if_pos ⟨c3.1, ⟨by omega, c3.2.1.2⟩, ⟨by omega, c3.2.2.1.2⟩, by omega, c3.2.2.2.2⟩, if_pos d]
    · cases h
      exact absurd ⟨rfl, rfl⟩ hg
  rw [if_neg c3] at h
  cases h
  exact absurd ⟨rfl, rfl⟩ hg

theorem decodeN_cont {n b0 b1 b2 b3 r k : Nat} (h : decodeN n b0 b1 b2 b3 = (r, k)) (h0 : 128 ≤ b0) : k ≤ 4 ∧ (2 ≤ k → 128 ≤ b1) ∧ (3 ≤ k → 128 ≤ b2) ∧ (4 ≤ k → 128 ≤ b3) := by
  unfold decodeN at h
  rw [if_neg (by omega)] at h
  repeat' split at h
  all_goals
    cases h
    omega

theorem dec_ascii (c : UInt8) (l : List UInt8) (h : c.toNat < 128) : dec (c :: l) = (c.toNat, 1) := by
  unfold dec decodeN
  rw [if_neg (by simp)]
  have : at0 (c :: l) 0 = c.toNat := rfl
  rw [this, if_pos h]

/-- A rune that is decoded well is decoded so whatever stands behind its bytes. -/
theorem dec_good {c : UInt8} {l : List UInt8} (h0 : 128 ≤ c.toNat) (hg : bad (c :: l) = false) (m : List UInt8) :
    2 ≤ (dec (c :: l)).2 ∧ (dec (c :: l)).2 ≤ (c :: l).length ∧ dec ((c :: l).take (dec (c :: l)).2 ++ m) = dec (c :: l) := by
  obtain ⟨r, k, hd⟩ : ∃ r k, dec (c :: l) = (r, k) := ⟨_, _, rfl⟩
  have hN : decodeN (c :: l).length (at0 (c :: l) 0) (at0 (c :: l) 1) (at0 (c :: l) 2) (at0 (c :: l) 3) = (r, k) := by
    rw [← hd]; unfold dec; rw [if_neg (by simp)]
  have hgg : ¬ (r = 65533 ∧ k = 1) := by
    rintro ⟨rfl, rfl⟩
    simp [bad, hd] at hg
  have hz : at0 (c :: l) 0 = c.toNat := rfl
  rw [hd]
  have hat : ∀ i, i < k → k ≤ (c :: l).length → at0 ((c :: l).take k ++ m) i = at0 (c :: l) i := by
    intro i hi hk
    unfold at0
    congr 1
    rw [List.getD_eq_getElem?_getD, List.getD_eq_getElem?_getD, List.getElem?_append_left (by simp at hk ⊢; omega), List.getElem?_take_of_lt hi]
  have hlen : k ≤ (c :: l).length → k ≤ ((c :: l).take k ++ m).length := by
    intro hk; simp at hk ⊢; omega
  have hne : 0 < k → k ≤ (c :: l).length → (c :: l).take k ++ m ≠ [] := by
    intro h1 h2 h3
    have := hlen h2
    rw [h3] at this
    simp at this; omega
  rcases decodeN_good hN (by rw [hz]; exact h0) hgg with ⟨rfl, hn, hall⟩ | ⟨rfl, hn, hall⟩ | ⟨rfl, hn, hall⟩
  · refine ⟨by simp, hn, ?_⟩
    unfold dec
    rw [if_neg (hne (by omega) hn), hat 0 (by omega) hn, hat 1 (by omega) hn]
    exact hall _ _ _ (hlen hn)
  · refine ⟨by simp, hn, ?_⟩
    unfold dec
    rw [if_neg (hne (by omega) hn), hat 0 (by omega) hn, hat 1 (by omega) hn, hat 2 (by omega) hn]
    exact hall _ _ (hlen hn)
  · refine ⟨by simp, hn, ?_⟩
    unfold dec
    rw [if_neg (hne (by omega) hn), hat 0 (by omega) hn, hat 1 (by omega) hn, hat 2 (by omega) hn, hat 3 (by omega) hn]
    exact hall _ (hlen hn)

/-- The bytes of a rune that is decoded well are none of ASCII. -/
theorem dec_high {c : UInt8} {l : List UInt8} (h0 : 128 ≤ c.toNat) : ∀ x ∈ (c :: l).take (dec (c :: l)).2, 128 ≤ x.toNat := by
  obtain ⟨r, k, hd⟩ : ∃ r k, dec (c :: l) = (r, k) := ⟨_, _, rfl⟩
  have hN : decodeN (c :: l).length (at0 (c :: l) 0) (at0 (c :: l) 1) (at0 (c :: l) 2) (at0 (c :: l) 3) = (r, k) := by
    rw [← hd]; unfold dec; rw [if_neg (by simp)]
  have hz : at0 (c :: l) 0 = c.toNat := rfl
  obtain ⟨hk, h1, h2, h3⟩ := decodeN_cont hN (by rw [hz]; exact h0)
  rw [hd]
  intro x hx
  obtain ⟨i, hi, rfl⟩ := List.mem_iff_getElem.1 hx
  simp only [List.length_take] at hi
  rw [List.getElem_take]
  have e : ((c :: l)[i]'(by omega)).toNat = at0 (c :: l) i := by
    unfold at0
    rw [List.getD_eq_getElem?_getD, List.getElem?_eq_getElem (by omega), Option.getD_some]
  rw [e]
  rcases i with _ | _ | _ | _ | i
  · rw [hz]; exact h0
  · exact h1 (by omega)
  · exact h2 (by omega)
  · exact h3 (by omega)
  · omega

end Go.Proofs.YtchmhdmapknmfaaGreatDoor.Pl
