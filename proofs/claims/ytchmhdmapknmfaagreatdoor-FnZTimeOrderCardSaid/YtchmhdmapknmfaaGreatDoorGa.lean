/-
  Plain: layouts of moments: the parts that stand for something, the text by a layout; two layouts with a bar between them.
-/
import Derived.Test.YtchmhdmapknmfaaGreatDoorPa
namespace Go.Proofs.YtchmhdmapknmfaaGreatDoor.Ly

/-- Does a text begin with another? -/
def pre : List UInt8 → List UInt8 → Bool
  | [], _ => true
  | _ :: _, [] => false
  | a :: p, b :: l => a == b && pre p l

/-- Does a text begin with a small letter? -/
def low : List UInt8 → Bool
  | [] => false
  | c :: _ => decide (97 ≤ c.toNat) && decide (c.toNat ≤ 122)

/-- Does a text begin with a digit? -/
def dig : List UInt8 → Bool
  | [] => false
  | c :: _ => decide (48 ≤ c.toNat) && decide (c.toNat ≤ 57)

/-- How often a letter stands at the head of a text. -/
def run (d : UInt8) : List UInt8 → Nat
  | [] => 0
  | c :: l => if c = d then run d l + 1 else 0

/-- The code of parts of a second: the separator, the digit, how many. -/
def frac (c d : UInt8) (n : Nat) : Int := (if d = 57 then 35 else 34) + ((n % 4096 : Nat) : Int) * 65536 + (if c = 44 then 268435456 else 0)

/-- The part at the head of a layout: its code and its length. -/
def ck : List UInt8 → Option (Int × Nat)
  | [] => none
  | c :: r =>
    if c = 74 then
      if pre [97, 110] r = true then (if pre [97, 110, 117, 97, 114, 121] r = true then some (257, 7) else if low (r.drop 2) = true then none else some (258, 3)) else none
    else if c = 77 then
      if pre [111, 110] r = true then (if pre [111, 110, 100, 97, 121] r = true then some (261, 6) else if low (r.drop 2) = true then none else some (262, 3)) else if pre [83, 84] r = true then some (23, 3) else none
    else if c = 48 then
      if pre [49] r = true then some (260, 2) else if pre [50] r = true then some (265, 2) else if pre [51] r = true then some (1038, 2) else if pre [52] r = true then some (1040, 2)
      else if pre [53] r = true then some (1042, 2) else if pre [54] r = true then some (276, 2) else if pre [48, 50] r = true then some (523, 3) else none
    else if c = 49 then (if pre [53] r = true then some (1036, 2) else some (259, 1))
    else if c = 50 then (if pre [48, 48, 54] r = true then some (275, 4) else some (263, 1))
    else if c = 95 then
      if pre [50] r = true then (if pre [50, 48, 48, 54] r = true then none else some (264, 2)) else if pre [95, 50] r = true then some (522, 3) else none
    else if c = 51 then some (1037, 1)
    else if c = 52 then some (1039, 1)
    else if c = 53 then some (1041, 1)
    else if c = 80 then (if pre [77] r = true then some (1045, 2) else none)
    else if c = 112 then (if pre [109] r = true then some (1046, 2) else none)
    else if c = 45 then
      if pre [48, 55, 48, 48, 48, 48] r = true then some (30, 7) else if pre [48, 55, 58, 48, 48, 58, 48, 48] r = true then some (33, 9) else if pre [48, 55, 48, 48] r = true then some (29, 5)
      else if pre [48, 55, 58, 48, 48] r = true then some (32, 6) else if pre [48, 55] r = true then some (31, 3) else none
    else if c = 90 then
      if pre [48, 55, 48, 48, 48, 48] r = true then some (25, 7) else if pre [48, 55, 58, 48, 48, 58, 48, 48] r = true then some (28, 9) else if pre [48, 55, 48, 48] r = true then some (24, 5)
      else if pre [48, 55, 58, 48, 48] r = true then some (27, 6) else if pre [48, 55] r = true then some (26, 3) else none
    else if c = 46 ∨ c = 44 then
      match r with
      | [] => none
      | d :: r' => if d = 48 ∨ d = 57 then (if dig ((d :: r').drop (run d (d :: r'))) = true then none else some (frac c d (run d (d :: r')), run d (d :: r') + 1)) else none
    else none

theorem pre_len : ∀ (p l : List UInt8), pre p l = true → p.length ≤ l.length
  | [], _, _ => Nat.zero_le _
  | _ :: _, [], h => by cases h
  | a :: p, b :: l, h => by
    simp only [pre, Bool.and_eq_true] at h
    have := pre_len p l h.2
    simp only [List.length_cons]
    omega

theorem run_le (d : UInt8) : ∀ l : List UInt8, run d l ≤ l.length
  | [] => Nat.le_refl _
  | c :: l => by
    have := run_le d l
    simp only [run, List.length_cons]
    split <;> omega

/-- What a part's length is bounded by. -/
def Ok (n : Nat) (o : Option (Int × Nat)) : Prop := ∀ s k, o = some (s, k) → 1 ≤ k ∧ k ≤ n
theorem Ok.none (n : Nat) : Ok n none := fun _ _ h => by cases h
theorem Ok.some {n k : Nat} {s : Int} (h1 : 1 ≤ k) (h2 : k ≤ n) : Ok n (some (s, k)) := fun s' k' h => by
  obtain ⟨-, rfl⟩ := Prod.mk.inj (Option.some.inj h)
  exact ⟨h1, h2⟩
theorem Ok.ite {n : Nat} {p : Prop} [Decidable p] {x y : Option (Int × Nat)} (h1 : p → Ok n x) (h2 : ¬ p → Ok n y) : Ok n (if p then x else y) := by
  by_cases h : p
  · rw [if_pos h]
    exact h1 h
  · rw [if_neg h]
    exact h2 h

theorem ck_ok (c : UInt8) (r : List UInt8) : Ok (r.length + 1) (ck (c :: r)) := by
  unfold ck
  repeat' (first | exact Ok.none _ | refine Ok.ite (fun _ => ?_) (fun _ => ?_))
  all_goals first
    | exact Ok.some (by omega) (by omega)
    | exact Ok.some (by omega) (by have h := pre_len _ r (by assumption); simp only [List.length_cons, List.length_nil] at h; omega)
    | skip
  cases r with
  | nil => exact Ok.none _
  | cons d r' =>
    simp only
    refine Ok.ite (fun _ => ?_) (fun _ => Ok.none _)
    refine Ok.ite (fun _ => Ok.none _) (fun _ => ?_)
    have := run_le d (d :: r')
    exact Ok.some (by omega) (by omega)

theorem ck_len {l : List UInt8} {s : Int} {k : Nat} (h : ck l = some (s, k)) : 1 ≤ k ∧ k ≤ l.length := by
  cases l with
  | nil => cases h
  | cons c r => exact ck_ok c r s k h

/-- The text by a layout, if each part's text is known. -/
def layN (W : Int → List UInt8) : Nat → List UInt8 → List UInt8
  | 0, _ => []
  | _ + 1, [] => []
  | n + 1, c :: r => match ck (c :: r) with
    | none => c :: layN W n r
    | some (s, k) => W s ++ layN W n ((c :: r).drop k)

def lay (W : Int → List UInt8) (l : List UInt8) : List UInt8 := layN W l.length l

theorem layN_fuel (W : Int → List UInt8) : ∀ (n m : Nat) (l : List UInt8), l.length ≤ n → l.length ≤ m → layN W n l = layN W m l
  | 0, m, l, h, _ => by
    have : l = [] := List.eq_nil_of_length_eq_zero (by omega)
    subst this
    cases m <;> rfl
  | n + 1, m, [], _, _ => by cases m <;> rfl
  | n + 1, 0, c :: l, _, h => by simp at h
  | n + 1, m + 1, c :: l, h, h' => by
    simp only [List.length_cons] at h h'
    simp only [layN]
    cases hc : ck (c :: l) with
    | none => simp only; rw [layN_fuel W n m l (by omega) (by omega)]
    | some p =>
      obtain ⟨s, k⟩ := p
      have := ck_len hc
      simp only
      rw [layN_fuel W n m _ (by simp only [List.length_drop, List.length_cons]; omega) (by simp only [List.length_drop, List.length_cons]; omega)]

theorem lay_nil (W : Int → List UInt8) : lay W [] = [] := rfl
theorem lay_none (W : Int → List UInt8) {c : UInt8} {l : List UInt8} (h : ck (c :: l) = none) : lay W (c :: l) = c :: lay W l := by
  unfold lay
  simp only [List.length_cons, layN, h]
theorem lay_some (W : Int → List UInt8) {l : List UInt8} {s : Int} {k : Nat} (h : ck l = some (s, k)) : lay W l = W s ++ lay W (l.drop k) := by
  have hk := ck_len h
  cases l with
  | nil => cases h
  | cons c l =>
    unfold lay
    conv => lhs; simp only [List.length_cons, layN, h]
    rw [layN_fuel W _ ((c :: l).drop k).length _ (by simp only [List.length_drop, List.length_cons]; omega) (Nat.le_refl _)]

theorem pre_bar : ∀ (p a b : List UInt8), 124 ∉ p → pre p (a ++ 124 :: b) = pre p a
  | [], _, _, _ => rfl
  | x :: p, [], b, h => by
    have hx : (x == 124) = false := by
      rw [beq_eq_false_iff_ne]
      intro e
      exact h (by rw [e]; exact List.mem_cons_self ..)
    show (x == 124 && pre p b) = false
    rw [hx]
    rfl
  | x :: p, y :: a, b, h => by
    show (x == y && pre p (a ++ 124 :: b)) = (x == y && pre p a)
    rw [pre_bar p a b (fun hm => h (List.mem_cons_of_mem _ hm))]

theorem run_bar (d : UInt8) (h : d ≠ 124) : ∀ a b : List UInt8, run d (a ++ 124 :: b) = run d a
  | [], b => by
    show (if (124 : UInt8) = d then run d b + 1 else 0) = 0
    rw [if_neg (Ne.symm h)]
  | c :: a, b => by
    show (if c = d then run d (a ++ 124 :: b) + 1 else 0) = (if c = d then run d a + 1 else 0)
    rw [run_bar d h a b]

theorem low_bar {k : Nat} {a : List UInt8} (b : List UInt8) (h : k ≤ a.length) : low ((a ++ 124 :: b).drop k) = low (a.drop k) := by
  rw [List.drop_append_of_le_length h]
  cases a.drop k with
  | nil => rfl
  | cons c l => rfl

theorem dig_bar {k : Nat} {a : List UInt8} (b : List UInt8) (h : k ≤ a.length) : dig ((a ++ 124 :: b).drop k) = dig (a.drop k) := by
  rw [List.drop_append_of_le_length h]
  cases a.drop k with
  | nil => rfl
  | cons c l => rfl

theorem ck_bar (c : UInt8) (r b : List UInt8) : ck (c :: r ++ 124 :: b) = ck (c :: r) := by
  have hp : ∀ p : List UInt8, 124 ∉ p → pre p (r ++ 124 :: b) = pre p r := fun p h => pre_bar p r b h
  have hl : ∀ p : List UInt8, p.length = 2 → pre p r = true → low ((r ++ 124 :: b).drop 2) = low (r.drop 2) := fun p h2 h => low_bar b (by have := pre_len p r h; omega)
  rw [List.cons_append]
  dsimp only [ck]
  rw [hp [97, 110] (by decide), hp [97, 110, 117, 97, 114, 121] (by decide), hp [111, 110] (by decide), hp [111, 110, 100, 97, 121] (by decide), hp [83, 84] (by decide),
    hp [49] (by decide), hp [50] (by decide), hp [51] (by decide), hp [52] (by decide), hp [53] (by decide), hp [54] (by decide), hp [48, 50] (by decide), hp [48, 48, 54] (by decide),
    hp [50, 48, 48, 54] (by decide), hp [95, 50] (by decide), hp [77] (by decide), hp [109] (by decide), hp [48, 55, 48, 48, 48, 48] (by decide), hp [48, 55, 58, 48, 48, 58, 48, 48] (by decide),
    hp [48, 55, 48, 48] (by decide), hp [48, 55, 58, 48, 48] (by decide), hp [48, 55] (by decide)]
  by_cases c1 : c = 74
  · rw [if_pos c1, if_pos c1]
    by_cases h : pre [97, 110] r = true
    · rw [hl [97, 110] rfl h]
    · rw [if_neg h, if_neg h]
  rw [if_neg c1, if_neg c1]
  by_cases c2 : c = 77
  · rw [if_pos c2, if_pos c2]
    by_cases h : pre [111, 110] r = true
    · rw [hl [111, 110] rfl h]
    · rw [if_neg h, if_neg h]
  rw [if_neg c2, if_neg c2]
  by_cases c3 : c = 46 ∨ c = 44
  · have e : ∀ (r1 : List UInt8) (x : Option (Int × Nat)), (match r1 with
      | [] => (none : Option (Int × Nat))
      | d :: r' => if d = 48 ∨ d = 57 then (if dig ((d :: r').drop (run d (d :: r'))) = true then none else some (frac c d (run d (d :: r')), run d (d :: r') + 1)) else none) = x →
        (match r1 ++ 124 :: b with
      | [] => (none : Option (Int × Nat))
      | d :: r' => if d = 48 ∨ d = 57 then (if dig ((d :: r').drop (run d (d :: r'))) = true then none else some (frac c d (run d (d :: r')), run d (d :: r') + 1)) else none) = x := by
      intro r1 x hx
      cases r1 with
      | nil =>
        simp only at hx
        subst hx
        show (if (124 : UInt8) = 48 ∨ (124 : UInt8) = 57 then _ else none) = none
        rw [if_neg (by decide)]
      | cons d r' =>
        simp only at hx
        subst hx
        show (if d = 48 ∨ d = 57 then (if dig (((d :: r') ++ 124 :: b).drop (run d ((d :: r') ++ 124 :: b))) = true then none else some (frac c d (run d ((d :: r') ++ 124 :: b)), run d ((d :: r') ++ 124 :: b) + 1)) else none) = _
        by_cases hd : d = 48 ∨ d = 57
        · have hd' : d ≠ 124 := by rcases hd with rfl | rfl <;> decide
          rw [run_bar d hd', dig_bar b (run_le d (d :: r'))]
        · rw [if_neg hd, if_neg hd]
    rw [e r _ rfl]
  · rw [if_neg c3, if_neg c3]

theorem lay_bar (W : Int → List UInt8) (b : List UInt8) : ∀ (n : Nat) (a : List UInt8), a.length ≤ n → lay W (a ++ 124 :: b) = lay W a ++ 124 :: lay W b
  | n, [], _ => by
    show lay W (124 :: b) = 124 :: lay W b
    exact lay_none W (by simp [ck])
  | 0, c :: a, h => by simp at h
  | n + 1, c :: a, h => by
    simp only [List.length_cons] at h
    have hb := ck_bar c a b
    cases hc : ck (c :: a) with
    | none =>
      rw [hc] at hb
      rw [lay_none W hc]
      have h1 := lay_none W (c := c) (l := a ++ 124 :: b) hb
      show lay W (c :: (a ++ 124 :: b)) = _
      rw [h1, lay_bar W b n a (by omega)]
      rfl
    | some p =>
      obtain ⟨s, k⟩ := p
      rw [hc] at hb
      have hk := ck_len hc
      rw [lay_some W hc, lay_some W hb, List.drop_append_of_le_length hk.2, lay_bar W b n _ (by simp only [List.length_drop, List.length_cons]; omega), List.append_assoc]
end Go.Proofs.YtchmhdmapknmfaaGreatDoor.Ly
