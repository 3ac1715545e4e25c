/-
  Plain: what the JSON encoder makes of a text between quotes: it is as long as it has to be, it can be scanned, it is UTF-8.
-/
import Derived.Test.YtchmhdmapknmfaaGreatDoorPa
namespace Go.Proofs.YtchmhdmapknmfaaGreatDoor.Pl
open Go.Lib

def hexd (n : Nat) : UInt8 := if n < 10 then UInt8.ofNat (48 + n) else UInt8.ofNat (87 + n)
/-- How a byte is written that must not stand as it is. -/
def escB (c : UInt8) : List UInt8 := if c = 92 ∨ c = 34 then [92, c] else if c = 10 then [92, 110] else if c = 13 then [92, 114] else if c = 9 then [92, 116] else [92, 117, 48, 48, hexd (c.toNat / 16), hexd (c.toNat % 16)]
/-- May an ASCII byte stand as it is? -/
def plainB (c : UInt8) : Bool := 32 ≤ c.toNat && c != 92 && c != 34
def bang : List UInt8 := [92, 117, 102, 102, 102, 100]

def escN : Nat → List UInt8 → List UInt8
  | 0, _ => []
  | _ + 1, [] => []
  | n + 1, c :: l =>
    if 128 ≤ c.toNat then
      if bad (c :: l) then bang ++ escN n l else (c :: l).take (dec (c :: l)).2 ++ escN n ((c :: l).drop (dec (c :: l)).2)
    else if plainB c then c :: escN n l else escB c ++ escN n l

theorem escN_fuel : ∀ (n m : Nat) (l : List UInt8), l.length ≤ n → l.length ≤ m → escN n l = escN m l := by
  intro n
  induction n with
  | zero =>
    intro m l h _
    have : l = [] := List.eq_nil_of_length_eq_zero (by omega)
    subst this
    cases m <;> rfl
  | succ n ih =>
    intro m l h hm
    cases l with
    | nil => cases m <;> rfl
    | cons c l =>
      cases m with
      | zero => simp at hm
      | succ m =>
        simp only [List.length_cons] at h hm
        simp only [escN]
        by_cases h1 : 128 ≤ c.toNat
        · rw [if_pos h1, if_pos h1]
          by_cases h2 : bad (c :: l) = true
          · rw [if_pos h2, if_pos h2, ih m l (by omega) (by omega)]
          · rw [if_neg h2, if_neg h2]
            have := dec_good h1 (by simpa using h2) []
            rw [ih m _ (by simp only [List.length_drop, List.length_cons]; omega) (by simp only [List.length_drop, List.length_cons]; omega)]
        · rw [if_neg h1, if_neg h1, ih m l (by omega) (by omega)]

/-- What a text is written as between quotes. -/
def esc (l : List UInt8) : List UInt8 := escN l.length l

theorem esc_nil : esc [] = [] := rfl
theorem esc_bad {c : UInt8} {l : List UInt8} (h : 128 ≤ c.toNat) (hb : bad (c :: l) = true) : esc (c :: l) = bang ++ esc l := by
  unfold esc
  simp only [List.length_cons, escN]
  rw [if_pos h, if_pos hb]
theorem esc_good {c : UInt8} {l : List UInt8} (h : 128 ≤ c.toNat) (hb : bad (c :: l) = false) : esc (c :: l) = (c :: l).take (dec (c :: l)).2 ++ esc ((c :: l).drop (dec (c :: l)).2) := by
  have := dec_good h hb []
  unfold esc
  conv => lhs; simp only [List.length_cons, escN]
  rw [if_pos h, if_neg (by simp [hb])]
  congr 1
  exact escN_fuel _ _ _ (by simp only [List.length_drop, List.length_cons]; omega) (Nat.le_refl _)
theorem esc_plain {c : UInt8} {l : List UInt8} (h : c.toNat < 128) (hb : plainB c = true) : esc (c :: l) = c :: esc l := by
  unfold esc
  simp only [List.length_cons, escN]
  rw [if_neg (by omega), if_pos hb]
theorem esc_esc {c : UInt8} {l : List UInt8} (h : c.toNat < 128) (hb : plainB c = false) : esc (c :: l) = escB c ++ esc l := by
  unfold esc
  simp only [List.length_cons, escN]
  rw [if_neg (by omega), if_neg (by simp [hb])]

/-- An induction over a text as it is escaped. -/
theorem esc_ind (P : List UInt8 → Prop) (h0 : P []) (hbad : ∀ c l, 128 ≤ c.toNat → bad (c :: l) = true → P l → P (c :: l))
    (hgood : ∀ c l, 128 ≤ c.toNat → bad (c :: l) = false → P ((c :: l).drop (dec (c :: l)).2) → P (c :: l))
    (hplain : ∀ c l, c.toNat < 128 → plainB c = true → P l → P (c :: l)) (hesc : ∀ c l, c.toNat < 128 → plainB c = false → P l → P (c :: l)) : ∀ l, P l := by
  have key : ∀ n (l : List UInt8), l.length ≤ n → P l := by
    intro n
    induction n with
    | zero => intro l h; rw [List.eq_nil_of_length_eq_zero (Nat.le_zero.1 h)]; exact h0
    | succ n ih =>
      intro l h
      cases l with
      | nil => exact h0
      | cons c l =>
        simp only [List.length_cons] at h
        by_cases h1 : 128 ≤ c.toNat
        · cases h2 : bad (c :: l) with
          | true => exact hbad c l h1 h2 (ih l (by omega))
          | false =>
            have := dec_good h1 h2 []
            exact hgood c l h1 h2 (ih _ (by simp only [List.length_drop, List.length_cons]; omega))
        · cases h2 : plainB c with
          | true => exact hplain c l (by omega) h2 (ih l (by omega))
          | false => exact hesc c l (by omega) h2 (ih l (by omega))
  exact fun l => key l.length l (Nat.le_refl _)

theorem escB_length (c : UInt8) : 2 ≤ (escB c).length ∧ (escB c).length ≤ 6 := by
  unfold escB
  split
  · simp
  split
  · simp
  split
  · simp
  split <;> simp

theorem esc_length (l : List UInt8) : l.length ≤ (esc l).length ∧ (esc l).length ≤ 6 * l.length := by
  induction l using esc_ind with
  | h0 => simp [esc_nil]
  | hbad c l h1 h2 ih => rw [esc_bad h1 h2]; simp [bang]; omega
  | hgood c l h1 h2 ih =>
    rw [esc_good h1 h2]
    have := dec_good h1 h2 []
    simp only [List.length_append, List.length_take, List.length_drop, List.length_cons] at *
    omega
  | hplain c l h1 h2 ih => rw [esc_plain h1 h2]; simp; omega
  | hesc c l h1 h2 ih => rw [esc_esc h1 h2]; have := escB_length c; simp; omega

/-- Valid UTF-8. -/
inductive V : List UInt8 → Prop
  | nil : V []
  | ascii (c : UInt8) (l : List UInt8) : c.toNat < 128 → V l → V (c :: l)
  | good (c : UInt8) (l : List UInt8) : 128 ≤ c.toNat → bad (c :: l) = false → V ((c :: l).drop (dec (c :: l)).2) → V (c :: l)

theorem V.asciis : ∀ (a l : List UInt8), (∀ c ∈ a, c.toNat < 128) → V l → V (a ++ l)
  | [], _, _, h => h
  | c :: a, l, ha, h => .ascii c _ (ha c (by simp)) (V.asciis a l (fun x hx => ha x (by simp [hx])) h)

theorem hexd_lt (n : Nat) (h : n < 16) : 48 ≤ (hexd n).toNat ∧ (hexd n).toNat ≤ 57 ∨ 97 ≤ (hexd n).toNat ∧ (hexd n).toNat ≤ 102 := by
  have : ∀ n : Fin 16, 48 ≤ (hexd n).toNat ∧ (hexd n).toNat ≤ 57 ∨ 97 ≤ (hexd n).toNat ∧ (hexd n).toNat ≤ 102 := by decide
  exact this ⟨n, h⟩

theorem escB_ascii (c : UInt8) (hc : c.toNat < 128) : ∀ x ∈ escB c, x.toNat < 128 := by
  intro x hx
  unfold escB at hx
  have h1 := hexd_lt (c.toNat / 16) (by omega)
  have h2 := hexd_lt (c.toNat % 16) (by omega)
  split at hx
  · simp at hx; rcases hx with rfl | rfl
    · decide
    · exact hc
  split at hx
  · simp at hx; rcases hx with rfl | rfl <;> decide
  split at hx
  · simp at hx; rcases hx with rfl | rfl <;> decide
  split at hx
  · simp at hx; rcases hx with rfl | rfl <;> decide
  · simp at hx; rcases hx with rfl | rfl | rfl | rfl | rfl
    · decide
    · decide
    · decide
    · omega
    · omega

theorem esc_valid (l : List UInt8) : V (esc l) := by
  induction l using esc_ind with
  | h0 => exact .nil
  | hbad c l h1 h2 ih => rw [esc_bad h1 h2]; exact V.asciis _ _ (by decide) ih
  | hgood c l h1 h2 ih =>
    rw [esc_good h1 h2]
    obtain ⟨hk, hl, hd⟩ := dec_good h1 h2 (esc ((c :: l).drop (dec (c :: l)).2))
    obtain ⟨k, hk'⟩ : ∃ k, (dec (c :: l)).2 = k + 1 := ⟨(dec (c :: l)).2 - 1, by omega⟩
    have hb : bad ((c :: l).take (dec (c :: l)).2 ++ esc ((c :: l).drop (dec (c :: l)).2)) = bad (c :: l) := by unfold bad; rw [hd]
    have hdrop : ((c :: l).take (dec (c :: l)).2 ++ esc ((c :: l).drop (dec (c :: l)).2)).drop (dec (c :: l)).2 = esc ((c :: l).drop (dec (c :: l)).2) := by
      rw [List.drop_append_of_le_length (by simp only [List.length_take]; omega), List.drop_take_self, List.nil_append]
    generalize hm : esc ((c :: l).drop (dec (c :: l)).2) = m at *
    have hform : (c :: l).take (dec (c :: l)).2 ++ m = c :: (l.take k ++ m) := by rw [hk']; rfl
    rw [hform] at hd hb hdrop ⊢
    refine .good c _ h1 (by rw [hb]; exact h2) ?_
    rw [hd, hdrop]; exact ih
  | hplain c l h1 h2 ih => rw [esc_plain h1 h2]; exact .ascii c _ h1 ih
  | hesc c l h1 h2 ih => rw [esc_esc h1 h2]; exact V.asciis _ _ (escB_ascii c h1) ih

/-- A text that can be scanned: no control character, no quote, and behind a backslash one byte is passed over. -/
inductive Sc : List UInt8 → Prop
  | nil : Sc []
  | one (c : UInt8) (l : List UInt8) : 32 ≤ c.toNat → c ≠ 34 → c ≠ 92 → Sc l → Sc (c :: l)
  | two (l : List UInt8) : Sc (l.drop 1) → Sc (92 :: l)

theorem Sc.ones : ∀ (a l : List UInt8), (∀ c ∈ a, 32 ≤ c.toNat ∧ c ≠ 34 ∧ c ≠ 92) → Sc l → Sc (a ++ l)
  | [], _, _, h => h
  | c :: a, l, ha, h => .one c _ (ha c (by simp)).1 (ha c (by simp)).2.1 (ha c (by simp)).2.2 (Sc.ones a l (fun x hx => ha x (by simp [hx])) h)

theorem ne_of_toNat {c d : UInt8} (h : c.toNat ≠ d.toNat) : c ≠ d := fun e => h (by rw [e])

theorem escB_scan (c : UInt8) (hc : c.toNat < 128) (l : List UInt8) (h : Sc l) : Sc (escB c ++ l) := by
  unfold escB
  have h1 := hexd_lt (c.toNat / 16) (by omega)
  have h2 := hexd_lt (c.toNat % 16) (by omega)
  have t34 : (34 : UInt8).toNat = 34 := rfl
  have t92 : (92 : UInt8).toNat = 92 := rfl
  split
  · exact .two _ h
  split
  · exact .two _ h
  split
  · exact .two _ h
  split
  · exact .two _ h
  · refine .two _ ?_
    show Sc ([48, 48, hexd (c.toNat / 16), hexd (c.toNat % 16)] ++ l)
    refine Sc.ones _ _ ?_ h
    intro x hx
    simp at hx
    rcases hx with rfl | rfl | rfl
    · decide
    · exact ⟨by omega, ne_of_toNat (by omega), ne_of_toNat (by omega)⟩
    · exact ⟨by omega, ne_of_toNat (by omega), ne_of_toNat (by omega)⟩

theorem esc_scan (l : List UInt8) : Sc (esc l) := by
  have t34 : (34 : UInt8).toNat = 34 := rfl
  have t92 : (92 : UInt8).toNat = 92 := rfl
  induction l using esc_ind with
  | h0 => exact .nil
  | hbad c l h1 h2 ih =>
    rw [esc_bad h1 h2]
    refine .two _ ?_
    show Sc ([102, 102, 102, 100] ++ esc l)
    exact Sc.ones _ _ (by decide) ih
  | hgood c l h1 h2 ih =>
    rw [esc_good h1 h2]
    refine Sc.ones _ _ (fun x hx => ?_) ih
    have := dec_high h1 x hx
    exact ⟨by omega, ne_of_toNat (by omega), ne_of_toNat (by omega)⟩
  | hplain c l h1 h2 ih =>
    rw [esc_plain h1 h2]
    simp [plainB] at h2
    exact .one c _ h2.1.1 h2.2 h2.1.2 ih
  | hesc c l h1 h2 ih => rw [esc_esc h1 h2]; exact escB_scan c h1 _ ih
end Go.Proofs.YtchmhdmapknmfaaGreatDoor.Pl
