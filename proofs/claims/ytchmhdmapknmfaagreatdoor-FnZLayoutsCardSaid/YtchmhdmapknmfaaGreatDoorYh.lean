/-
  Joined: Jc Jd Rk Ra Rb Rc Rd. (Joined by merge.py out of several texts.)
-/
import Derived.Test.YtchmhdmapknmfaaGreatDoorYb
import Derived.Test.YtchmhdmapknmfaaGreatDoorYc
import Derived.Test.YtchmhdmapknmfaaGreatDoorBj

/-
  Plain: the parts of a layout as the reference looks for them are those of package time.
-/
namespace Go.Proofs.YtchmhdmapknmfaaGreatDoor.Ly

def chunks : List (List UInt8) := [[74, 97, 110, 117, 97, 114, 121], [74, 97, 110], [77, 111, 110, 100, 97, 121], [77, 111, 110], [77, 83, 84], [48, 48, 50], [48, 49], [48, 50], [48, 51], [48, 52], [48, 53], [48, 54], [49, 53], [49], [50, 48, 48, 54], [50],
  [95, 95, 50], [95, 50], [51], [52], [53], [80, 77], [112, 109], [45, 48, 55, 48, 48, 48, 48], [45, 48, 55, 58, 48, 48, 58, 48, 48], [45, 48, 55, 48, 48], [45, 48, 55, 58, 48, 48], [45, 48, 55],
  [90, 48, 55, 48, 48, 48, 48], [90, 48, 55, 58, 48, 48, 58, 48, 48], [90, 48, 55, 48, 48], [90, 48, 55, 58, 48, 48], [90, 48, 55]]
def codes : List Int := [257, 258, 261, 262, 23, 523, 260, 265, 1038, 1040, 1042, 276, 1036, 259, 275, 263, 522, 264, 1037, 1039, 1041, 1045, 1046, 30, 33, 29, 32, 31, 25, 28, 24, 27, 26]

/-- Does a part stand at the head of a layout? -/
def fits (l x : List UInt8) : Bool := pre x l && !((x == [74, 97, 110] || x == [77, 111, 110]) && low (l.drop 3))
def zf (c : UInt8) : List UInt8 → List UInt8
  | [] => []
  | d :: r => if d = 48 ∨ d = 57 then (if dig ((d :: r).drop (run d (d :: r))) = true then [] else c :: (d :: r).take (run d (d :: r))) else []
/-- The part at the head of a layout, as the reference looks for it. -/
def zc : List UInt8 → List UInt8
  | [] => []
  | c :: r => if c = 46 ∨ c = 44 then zf c r else if pre [95, 50, 48, 48, 54] (c :: r) = true then [] else (chunks.find? (fits (c :: r))).getD []

/-- A part and its code. -/
def Wr (x : List UInt8) (std : Int) : Prop := (x, std) ∈ chunks.zip codes ∨ ∃ (c d : UInt8) (n : Nat), (c = 46 ∨ c = 44) ∧ (d = 48 ∨ d = 57) ∧ 1 ≤ n ∧ x = c :: List.replicate n d ∧ std = frac c d n

def R (l : List UInt8) (o : Option (Int × Nat)) (z : List UInt8) : Prop := (o = none → z = []) ∧ ∀ std m, o = some (std, m) → z = l.take m ∧ Wr (l.take m) std

theorem R.none {l z : List UInt8} (h : z = []) : R l none z := ⟨fun _ => h, fun _ _ e => by cases e⟩
theorem R.some {l z x : List UInt8} {std : Int} {m : Nat} (h : z = x) (h1 : l.take m = x) (h2 : Wr x std) : R l (some (std, m)) z := by
  refine ⟨fun e => (by cases e), fun s k e => ?_⟩
  obtain ⟨rfl, rfl⟩ := Prod.mk.inj (Option.some.inj e)
  rw [h1]
  exact ⟨h, h2⟩

theorem pre_take : ∀ (p l : List UInt8), pre p l = true → l.take p.length = p
  | [], _, _ => rfl
  | _ :: _, [], h => by cases h
  | a :: p, b :: l, h => by
    simp only [pre, Bool.and_eq_true, beq_iff_eq] at h
    rw [List.length_cons, List.take_succ_cons, pre_take p l h.2, h.1]
theorem take_cons {c : UInt8} {p r : List UInt8} (h : pre p r = true) : (c :: r).take (p.length + 1) = c :: p := by
  rw [List.take_succ_cons, pre_take p r h]

theorem take_run (d : UInt8) : ∀ l : List UInt8, l.take (run d l) = List.replicate (run d l) d
  | [] => rfl
  | c :: l => by
    unfold run
    split
    · rename_i h
      rw [List.take_succ_cons, take_run d l, List.replicate_succ, h]
    · rfl

theorem fits_head (c : UInt8) (r : List UInt8) : fits (c :: r) = fun x => (x.headD c == c) && fits (c :: r) x := by
  funext x
  cases x with
  | nil => simp
  | cons a p =>
    show fits (c :: r) (a :: p) = ((a == c) && fits (c :: r) (a :: p))
    by_cases h : a = c
    · rw [beq_iff_eq.2 h, Bool.true_and]
    · rw [beq_eq_false_iff_ne.2 h, Bool.false_and]
      unfold fits
      show ((a == c && pre p r) && _) = false
      rw [beq_eq_false_iff_ne.2 h]
      rfl
theorem find_head (L : List (List UInt8)) (c : UInt8) (r : List UInt8) : L.find? (fits (c :: r)) = (L.filter (fun x => x.headD c == c)).find? (fits (c :: r)) := by
  rw [List.find?_filter]
  congr 1
  funext x
  have h := congrFun (fits_head c r) x
  cases h1 : (x.headD c == c) with
  | true => simp
  | false =>
    have h2 : fits (c :: r) x = false := by rw [h, h1, Bool.false_and]
    rw [h2]
    simp
theorem find_if (p : List UInt8 → Bool) (a : List UInt8) (l : List (List UInt8)) : (a :: l).find? p = if p a = true then some a else l.find? p := by
  rw [List.find?_cons]
  cases p a <;> rfl

theorem fits_cons {c : UInt8} {p r : List UInt8} (h : ((c :: p == [74, 97, 110]) || (c :: p == [77, 111, 110])) = false) : fits (c :: r) (c :: p) = pre p r := by
  unfold fits
  rw [h, Bool.false_and, Bool.not_false, Bool.and_true]
  show (c == c && pre p r) = _
  rw [beq_self_eq_true, Bool.true_and]
theorem fits_name {c : UInt8} {p r : List UInt8} (h : ((c :: p == [74, 97, 110]) || (c :: p == [77, 111, 110])) = true) : fits (c :: r) (c :: p) = (pre p r && !low (r.drop 2)) := by
  unfold fits
  rw [h, Bool.true_and]
  show ((c == c && pre p r) && _) = _
  rw [beq_self_eq_true, Bool.true_and]
  rfl

/-- The reference's part for a letter: only those parts that begin with it. -/
theorem zc_letter {c : UInt8} (L : List (List UInt8)) (hf : chunks.filter (fun x => x.headD c == c) = L) (h1 : c ≠ 46) (h2 : c ≠ 44) (h3 : c ≠ 95) (r : List UInt8) : zc (c :: r) = (L.find? (fits (c :: r))).getD [] := by
  show (if c = 46 ∨ c = 44 then zf c r else if pre [95, 50, 48, 48, 54] (c :: r) = true then [] else (chunks.find? (fits (c :: r))).getD []) = _
  rw [if_neg (by intro h; rcases h with h | h <;> contradiction), if_neg, find_head, hf]
  intro h
  have e : pre [95, 50, 48, 48, 54] (c :: r) = ((95 : UInt8) == c && pre [50, 48, 48, 54] r) := rfl
  rw [e, beq_eq_false_iff_ne.2 (Ne.symm h3)] at h
  cases h

theorem wr_in {x : List UInt8} {std : Int} (h : (chunks.zip codes).contains (x, std) = true) : Wr x std := .inl (by simpa using h)

theorem pre_head {a b : UInt8} {p q l : List UInt8} (h : a ≠ b) (hp : pre (a :: p) l = true) : pre (b :: q) l = false := by
  cases l with
  | nil => rfl
  | cons c l =>
    simp only [pre, Bool.and_eq_true, beq_iff_eq] at hp
    show (b == c && pre q l) = false
    rw [← hp.1, beq_eq_false_iff_ne.2 (Ne.symm h), Bool.false_and]
theorem pre_less : ∀ (p q l : List UInt8), pre (p ++ q) l = true → pre p l = true
  | [], _, _, _ => by cases ‹List UInt8› <;> rfl
  | _ :: _, _, [], h => by cases h
  | a :: p, q, b :: l, h => by
    simp only [List.cons_append, pre, Bool.and_eq_true] at h ⊢
    exact ⟨h.1, pre_less p q l h.2⟩

theorem r_J (r : List UInt8) : R (74 :: r) (ck (74 :: r)) (zc (74 :: r)) := by
  rw [zc_letter [[74, 97, 110, 117, 97, 114, 121], [74, 97, 110]] (by decide) (by decide) (by decide) (by decide), find_if, find_if, fits_cons (by decide), fits_name (by decide)]
  have e : ck (74 :: r) = if pre [97, 110] r = true then (if pre [97, 110, 117, 97, 114, 121] r = true then some (257, 7) else if low (r.drop 2) = true then none else some (258, 3)) else none := rfl
  rw [e]
  by_cases h : pre [97, 110] r = true
  · rw [if_pos h, h]
    by_cases h2 : pre [97, 110, 117, 97, 114, 121] r = true
    · rw [if_pos h2, if_pos h2]
      exact R.some rfl (take_cons h2) (wr_in (by decide))
    · rw [if_neg h2, if_neg h2]
      cases h3 : low (r.drop 2) with
      | true =>
        rw [if_pos rfl]
        exact R.none rfl
      | false =>
        rw [if_neg (by decide)]
        exact R.some (x := [74, 97, 110]) rfl (take_cons h) (wr_in (by decide))
  · rw [if_neg h, if_neg (c := pre [97, 110, 117, 97, 114, 121] r = true) (fun h2 => h (pre_less [97, 110] [117, 97, 114, 121] r h2)), if_neg (by simp [h])]
    exact R.none rfl

theorem r_M (r : List UInt8) : R (77 :: r) (ck (77 :: r)) (zc (77 :: r)) := by
  rw [zc_letter [[77, 111, 110, 100, 97, 121], [77, 111, 110], [77, 83, 84]] (by decide) (by decide) (by decide) (by decide), find_if, find_if, find_if, fits_cons (by decide), fits_name (by decide), fits_cons (by decide)]
  have e : ck (77 :: r) = if pre [111, 110] r = true then (if pre [111, 110, 100, 97, 121] r = true then some (261, 6) else if low (r.drop 2) = true then none else some (262, 3)) else if pre [83, 84] r = true then some (23, 3) else none := rfl
  rw [e]
  by_cases h : pre [111, 110] r = true
  · rw [if_pos h, h]
    by_cases h2 : pre [111, 110, 100, 97, 121] r = true
    · rw [if_pos h2, if_pos h2]
      exact R.some rfl (take_cons h2) (wr_in (by decide))
    · rw [if_neg h2, if_neg h2]
      cases h3 : low (r.drop 2) with
      | true =>
        rw [if_pos rfl, if_neg (by decide), if_neg (by rw [pre_head (by decide) h]; decide)]
        exact R.none rfl
      | false =>
        rw [if_neg (by decide)]
        exact R.some (x := [77, 111, 110]) rfl (take_cons h) (wr_in (by decide))
  · rw [if_neg h, if_neg (c := pre [111, 110, 100, 97, 121] r = true) (fun h2 => h (pre_less [111, 110] [100, 97, 121] r h2)), if_neg (c := (pre [111, 110] r && !low (List.drop 2 r)) = true) (by simp [h])]
    by_cases h2 : pre [83, 84] r = true
    · rw [if_pos h2, if_pos h2]
      exact R.some rfl (take_cons h2) (wr_in (by decide))
    · rw [if_neg h2, if_neg h2]
      exact R.none rfl

theorem r_0 (r : List UInt8) : R (48 :: r) (ck (48 :: r)) (zc (48 :: r)) := by
  rw [zc_letter [[48, 48, 50], [48, 49], [48, 50], [48, 51], [48, 52], [48, 53], [48, 54]] (by decide) (by decide) (by decide) (by decide), find_if, find_if, find_if, find_if, find_if, find_if, find_if,
    fits_cons (by decide), fits_cons (by decide), fits_cons (by decide), fits_cons (by decide), fits_cons (by decide), fits_cons (by decide), fits_cons (by decide)]
  have e : ck (48 :: r) = if pre [49] r = true then some (260, 2) else if pre [50] r = true then some (265, 2) else if pre [51] r = true then some (1038, 2) else if pre [52] r = true then some (1040, 2)
      else if pre [53] r = true then some (1042, 2) else if pre [54] r = true then some (276, 2) else if pre [48, 50] r = true then some (523, 3) else none := rfl
  rw [e]
  by_cases h0 : pre [48, 50] r = true
  · rw [if_pos h0, if_neg (by rw [pre_head (by decide) h0]; decide), if_neg (by rw [pre_head (by decide) h0]; decide), if_neg (by rw [pre_head (by decide) h0]; decide), if_neg (by rw [pre_head (by decide) h0]; decide), if_neg (by rw [pre_head (by decide) h0]; decide),
      if_neg (by rw [pre_head (by decide) h0]; decide), if_pos h0]
    exact R.some rfl (take_cons h0) (wr_in (by decide))
  rw [if_neg (c := pre [48, 50] r = true) h0, if_neg (c := pre [48, 50] r = true) h0]
  by_cases h1 : pre [49] r = true
  · rw [if_pos h1, if_pos h1]
    exact R.some rfl (take_cons h1) (wr_in (by decide))
  rw [if_neg h1, if_neg h1]
  by_cases h1 : pre [50] r = true
  · rw [if_pos h1, if_pos h1]
    exact R.some rfl (take_cons h1) (wr_in (by decide))
  rw [if_neg h1, if_neg h1]
  by_cases h1 : pre [51] r = true
  · rw [if_pos h1, if_pos h1]
    exact R.some rfl (take_cons h1) (wr_in (by decide))
  rw [if_neg h1, if_neg h1]
  by_cases h1 : pre [52] r = true
  · rw [if_pos h1, if_pos h1]
    exact R.some rfl (take_cons h1) (wr_in (by decide))
  rw [if_neg h1, if_neg h1]
  by_cases h1 : pre [53] r = true
  · rw [if_pos h1, if_pos h1]
    exact R.some rfl (take_cons h1) (wr_in (by decide))
  rw [if_neg h1, if_neg h1]
  by_cases h1 : pre [54] r = true
  · rw [if_pos h1, if_pos h1]
    exact R.some rfl (take_cons h1) (wr_in (by decide))
  rw [if_neg h1, if_neg h1]
  exact R.none rfl

theorem r_1 (r : List UInt8) : R (49 :: r) (ck (49 :: r)) (zc (49 :: r)) := by
  rw [zc_letter [[49, 53], [49]] (by decide) (by decide) (by decide) (by decide), find_if, find_if, fits_cons (by decide), fits_cons (by decide)]
  have e : ck (49 :: r) = if pre [53] r = true then some (1036, 2) else some (259, 1) := rfl
  rw [e]
  by_cases h1 : pre [53] r = true
  · rw [if_pos h1, if_pos h1]
    exact R.some rfl (take_cons h1) (wr_in (by decide))
  rw [if_neg h1, if_neg h1, if_pos (by cases r <;> rfl)]
  exact R.some rfl (take_cons (p := []) (by cases r <;> rfl)) (wr_in (by decide))

theorem r_2 (r : List UInt8) : R (50 :: r) (ck (50 :: r)) (zc (50 :: r)) := by
  rw [zc_letter [[50, 48, 48, 54], [50]] (by decide) (by decide) (by decide) (by decide), find_if, find_if, fits_cons (by decide), fits_cons (by decide)]
  have e : ck (50 :: r) = if pre [48, 48, 54] r = true then some (275, 4) else some (263, 1) := rfl
  rw [e]
  by_cases h1 : pre [48, 48, 54] r = true
  · rw [if_pos h1, if_pos h1]
    exact R.some rfl (take_cons h1) (wr_in (by decide))
  rw [if_neg h1, if_neg h1, if_pos (by cases r <;> rfl)]
  exact R.some rfl (take_cons (p := []) (by cases r <;> rfl)) (wr_in (by decide))

theorem r_line (r : List UInt8) : R (95 :: r) (ck (95 :: r)) (zc (95 :: r)) := by
  have hf : chunks.filter (fun x => x.headD 95 == 95) = [[95, 95, 50], [95, 50]] := by decide
  have hz : zc (95 :: r) = if pre [50, 48, 48, 54] r = true then [] else (if pre [95, 50] r = true then some [95, 95, 50] else if pre [50] r = true then some [95, 50] else none).getD [] := by
    show (if (95 : UInt8) = 46 ∨ (95 : UInt8) = 44 then zf 95 r else if (true && pre [50, 48, 48, 54] r) = true then [] else (chunks.find? (fits (95 :: r))).getD []) = _
    rw [if_neg (by decide), Bool.true_and, find_head, hf, find_if, find_if, fits_cons (by decide), fits_cons (by decide)]
    rfl
  have e : ck (95 :: r) = if pre [50] r = true then (if pre [50, 48, 48, 54] r = true then none else some (264, 2)) else if pre [95, 50] r = true then some (522, 3) else none := rfl
  rw [e, hz]
  by_cases h1 : pre [50] r = true
  · rw [if_pos h1, if_pos h1]
    by_cases h2 : pre [50, 48, 48, 54] r = true
    · rw [if_pos h2, if_pos h2]
      exact R.none rfl
    · rw [if_neg h2, if_neg h2, if_neg (by rw [pre_head (by decide) h1]; decide)]
      exact R.some rfl (take_cons h1) (wr_in (by decide))
  · rw [if_neg h1, if_neg h1, if_neg (c := pre [50, 48, 48, 54] r = true) (fun h2 => h1 (pre_less [50] [48, 48, 54] r h2))]
    by_cases h2 : pre [95, 50] r = true
    · rw [if_pos h2, if_pos h2]
      exact R.some rfl (take_cons h2) (wr_in (by decide))
    · rw [if_neg h2, if_neg h2]
      exact R.none rfl

theorem r_one {c : UInt8} {std : Int} (hf : chunks.filter (fun x => x.headD c == c) = [[c]]) (h1 : c ≠ 46) (h2 : c ≠ 44) (h3 : c ≠ 95) (hw : (chunks.zip codes).contains ([c], std) = true) (r : List UInt8) (e : ck (c :: r) = some (std, 1)) : R (c :: r) (ck (c :: r)) (zc (c :: r)) := by
  rw [zc_letter _ hf h1 h2 h3, find_if, fits_cons (by simp), if_pos (by cases r <;> rfl), e]
  exact R.some rfl (take_cons (p := []) (by cases r <;> rfl)) (wr_in hw)

theorem r_two {c d : UInt8} {std : Int} (hf : chunks.filter (fun x => x.headD c == c) = [[c, d]]) (h1 : c ≠ 46) (h2 : c ≠ 44) (h3 : c ≠ 95) (hw : (chunks.zip codes).contains ([c, d], std) = true) (r : List UInt8) (e : ck (c :: r) = if pre [d] r = true then some (std, 2) else none) : R (c :: r) (ck (c :: r)) (zc (c :: r)) := by
  rw [zc_letter _ hf h1 h2 h3, find_if, fits_cons (by simp), e]
  by_cases h1 : pre [d] r = true
  · rw [if_pos h1, if_pos h1]
    exact R.some rfl (take_cons h1) (wr_in hw)
  · rw [if_neg h1, if_neg h1]
    exact R.none rfl

theorem r_five {c : UInt8} {a1 a2 a3 a4 a5 : Int} (hf : chunks.filter (fun x => x.headD c == c) = [[c, 48, 55, 48, 48, 48, 48], [c, 48, 55, 58, 48, 48, 58, 48, 48], [c, 48, 55, 48, 48], [c, 48, 55, 58, 48, 48], [c, 48, 55]]) (h1 : c ≠ 46) (h2 : c ≠ 44) (h3 : c ≠ 95)
    (hw : ((chunks.zip codes).contains ([c, 48, 55, 48, 48, 48, 48], a1) && (chunks.zip codes).contains ([c, 48, 55, 58, 48, 48, 58, 48, 48], a2) && (chunks.zip codes).contains ([c, 48, 55, 48, 48], a3) && (chunks.zip codes).contains ([c, 48, 55, 58, 48, 48], a4) && (chunks.zip codes).contains ([c, 48, 55], a5)) = true)
    (hn : c ≠ 74 ∧ c ≠ 77) (r : List UInt8) (e : ck (c :: r) = if pre [48, 55, 48, 48, 48, 48] r = true then some (a1, 7) else if pre [48, 55, 58, 48, 48, 58, 48, 48] r = true then some (a2, 9) else if pre [48, 55, 48, 48] r = true then some (a3, 5)
      else if pre [48, 55, 58, 48, 48] r = true then some (a4, 6) else if pre [48, 55] r = true then some (a5, 3) else none) : R (c :: r) (ck (c :: r)) (zc (c :: r)) := by
  simp only [Bool.and_eq_true] at hw
  obtain ⟨⟨⟨⟨w1, w2⟩, w3⟩, w4⟩, w5⟩ := hw
  have hq : ∀ p : List UInt8, ((c :: p == [74, 97, 110]) || (c :: p == [77, 111, 110])) = false := by
    intro p
    rw [Bool.or_eq_false_iff, beq_eq_false_iff_ne, beq_eq_false_iff_ne]
    exact ⟨fun e => hn.1 (List.cons.inj e).1, fun e => hn.2 (List.cons.inj e).1⟩
  rw [zc_letter _ hf h1 h2 h3, find_if, find_if, find_if, find_if, find_if, fits_cons (hq _), fits_cons (hq _), fits_cons (hq _), fits_cons (hq _), fits_cons (hq _), e]
  by_cases h1 : pre [48, 55, 48, 48, 48, 48] r = true
  · rw [if_pos h1, if_pos h1]
    exact R.some rfl (take_cons h1) (wr_in w1)
  rw [if_neg h1, if_neg h1]
  by_cases h1 : pre [48, 55, 58, 48, 48, 58, 48, 48] r = true
  · rw [if_pos h1, if_pos h1]
    exact R.some rfl (take_cons h1) (wr_in w2)
  rw [if_neg h1, if_neg h1]
  by_cases h1 : pre [48, 55, 48, 48] r = true
  · rw [if_pos h1, if_pos h1]
    exact R.some rfl (take_cons h1) (wr_in w3)
  rw [if_neg h1, if_neg h1]
  by_cases h1 : pre [48, 55, 58, 48, 48] r = true
  · rw [if_pos h1, if_pos h1]
    exact R.some rfl (take_cons h1) (wr_in w4)
  rw [if_neg h1, if_neg h1]
  by_cases h1 : pre [48, 55] r = true
  · rw [if_pos h1, if_pos h1]
    exact R.some rfl (take_cons h1) (wr_in w5)
  rw [if_neg h1, if_neg h1]
  exact R.none rfl

theorem r_frac {c : UInt8} (hc : c = 46 ∨ c = 44) (r : List UInt8) : R (c :: r) (ck (c :: r)) (zc (c :: r)) := by
  have hz : zc (c :: r) = zf c r := by
    show (if c = 46 ∨ c = 44 then zf c r else if pre [95, 50, 48, 48, 54] (c :: r) = true then [] else (chunks.find? (fits (c :: r))).getD []) = _
    rw [if_pos hc]
  rw [hz]
  cases r with
  | nil =>
    have e : ck [c] = none := by rcases hc with rfl | rfl <;> rfl
    rw [e]
    exact R.none rfl
  | cons d r' =>
    have e : ck (c :: d :: r') = if d = 48 ∨ d = 57 then (if dig ((d :: r').drop (run d (d :: r'))) = true then none else some (frac c d (run d (d :: r')), run d (d :: r') + 1)) else none := by
      rcases hc with rfl | rfl <;> rfl
    have ez : zf c (d :: r') = if d = 48 ∨ d = 57 then (if dig ((d :: r').drop (run d (d :: r'))) = true then [] else c :: (d :: r').take (run d (d :: r'))) else [] := rfl
    rw [e, ez]
    by_cases hd : d = 48 ∨ d = 57
    · rw [if_pos hd, if_pos hd]
      by_cases hg : dig ((d :: r').drop (run d (d :: r'))) = true
      · rw [if_pos hg, if_pos hg]
        exact R.none rfl
      · rw [if_neg hg, if_neg hg]
        refine R.some (x := c :: List.replicate (run d (d :: r')) d) (by rw [take_run]) (by rw [List.take_succ_cons, take_run]) (.inr ⟨c, d, _, hc, hd, ?_, rfl, rfl⟩)
        unfold run
        rw [if_pos rfl]
        omega
    · rw [if_neg hd, if_neg hd]
      exact R.none rfl

theorem zc_ck (l : List UInt8) : R l (ck l) (zc l) := by
  cases l with
  | nil => exact R.none rfl
  | cons c r =>
    by_cases c1 : c = 74
    · rw [c1]; exact r_J r
    by_cases c2 : c = 77
    · rw [c2]; exact r_M r
    by_cases c3 : c = 48
    · rw [c3]; exact r_0 r
    by_cases c4 : c = 49
    · rw [c4]; exact r_1 r
    by_cases c5 : c = 50
    · rw [c5]; exact r_2 r
    by_cases c6 : c = 95
    · rw [c6]; exact r_line r
    by_cases c7 : c = 51
    · rw [c7]; exact r_one (std := 1037) (by decide) (by decide) (by decide) (by decide) (by decide) r rfl
    by_cases c8 : c = 52
    · rw [c8]; exact r_one (std := 1039) (by decide) (by decide) (by decide) (by decide) (by decide) r rfl
    by_cases c9 : c = 53
    · rw [c9]; exact r_one (std := 1041) (by decide) (by decide) (by decide) (by decide) (by decide) r rfl
    by_cases c10 : c = 80
    · rw [c10]; exact r_two (std := 1045) (d := 77) (by decide) (by decide) (by decide) (by decide) (by decide) r rfl
    by_cases c11 : c = 112
    · rw [c11]; exact r_two (std := 1046) (d := 109) (by decide) (by decide) (by decide) (by decide) (by decide) r rfl
    by_cases c12 : c = 45
    · rw [c12]; exact r_five (a1 := 30) (a2 := 33) (a3 := 29) (a4 := 32) (a5 := 31) (by decide) (by decide) (by decide) (by decide) (by decide) (by decide) r rfl
    by_cases c13 : c = 90
    · rw [c13]; exact r_five (a1 := 25) (a2 := 28) (a3 := 24) (a4 := 27) (a5 := 26) (by decide) (by decide) (by decide) (by decide) (by decide) (by decide) r rfl
    by_cases c14 : c = 46 ∨ c = 44
    · exact r_frac c14 r
    · have hf : chunks.filter (fun x => x.headD c == c) = [] := by
        have t : ∀ a : UInt8, c ≠ a → (a == c) = false := fun a h => beq_eq_false_iff_ne.2 (Ne.symm h)
        simp [chunks, List.filter, t 74 c1, t 77 c2, t 48 c3, t 49 c4, t 50 c5, t 95 c6, t 51 c7, t 52 c8, t 53 c9, t 80 c10, t 112 c11, t 45 c12, t 90 c13]
      have e : ck (c :: r) = none := by
        unfold ck
        dsimp only
        rw [if_neg c1, if_neg c2, if_neg c3, if_neg c4, if_neg c5, if_neg c6, if_neg c7, if_neg c8, if_neg c9, if_neg c10, if_neg c11, if_neg c12, if_neg c13, if_neg c14]
      rw [zc_letter [] hf (fun h => c14 (.inl h)) (fun h => c14 (.inr h)) c6, e]
      exact R.none rfl
end Go.Proofs.YtchmhdmapknmfaaGreatDoor.Ly

/-
  Plain: the year and the month as the reference counts them.
-/
namespace Go.Proofs.YtchmhdmapknmfaaGreatDoor.Ly

theorem year_one {y y' d : Nat} (h1 : zd y ≤ d) (h2 : d < zd (y + 1)) (h3 : zd y' ≤ d) (h4 : d < zd (y' + 1)) : y = y' := by
  rcases Nat.lt_trichotomy y y' with h | h | h
  · have := zd_mono (a := y + 1) (b := y') (by omega)
    omega
  · exact h
  · have := zd_mono (a := y' + 1) (b := y) (by omega)
    omega

/-- The days of the first months. -/
def msm (l : Bool) : Nat → Nat
  | 0 => 0
  | j + 1 => msm l j + mlen l (j + 1)

theorem mlp_sum (l : Bool) : ∀ (k m d m' d' : Nat), 1 ≤ m → mlp l k m d = (m', d') → msm l (m - 1) + d + 1 = msm l (m' - 1) + d' ∧ m ≤ m'
  | 0, m, d, m', d', h1, h => by
    obtain ⟨rfl, rfl⟩ := Prod.mk.inj h
    exact ⟨by omega, Nat.le_refl _⟩
  | k + 1, m, d, m', d', h1, h => by
    unfold mlp at h
    split at h
    · rename_i hle
      have ih := mlp_sum l k (m + 1) _ m' d' (by omega) h
      obtain ⟨j, rfl⟩ : ∃ j, m = j + 1 := ⟨m - 1, by omega⟩
      simp only [Nat.add_sub_cancel] at ih ⊢
      have e : msm l (j + 1) = msm l j + mlen l (j + 1) := rfl
      omega
    · obtain ⟨rfl, rfl⟩ := Prod.mk.inj h
      exact ⟨by omega, Nat.le_refl _⟩

theorem msm_year (y : Nat) (h : 1 ≤ y) : msm (lp y) 12 = zd (y + 1) - zd y := by
  have e : zd (y + 1) - zd y = 365 ∨ zd (y + 1) - zd y = 366 := by
    unfold zd
    obtain ⟨x, rfl⟩ : ∃ x, y = x + 1 := ⟨y - 1, by omega⟩
    simp only [Nat.add_sub_cancel]
    omega
  have t : msm true 12 = 366 := by decide
  have f : msm false 12 = 365 := by decide
  unfold lp
  rcases e with e | e <;> rw [e]
  · exact f
  · exact t
end Go.Proofs.YtchmhdmapknmfaaGreatDoor.Ly

/-
  Plain: the day of a moment by the days of its year's months; the days of the week, Monday first.
-/
namespace Go.Proofs.YtchmhdmapknmfaaGreatDoor.Ly

theorem mo_day {nanos off : Int} (zone : List UInt8) (h1 : -9223372036854775808 ≤ nanos) (h2 : nanos ≤ 9223372036854775807) (h4 : -86400 < off) (h5 : off < 86400) :
    ∃ rd : Nat, rd < 4000000 ∧ zd (moOf nanos off zone).y + msm (lp (moOf nanos off zone).y) ((moOf nanos off zone).mo - 1) + (moOf nanos off zone).d = rd + 1 ∧
      (moOf nanos off zone).yd = msm (lp (moOf nanos off zone).y) ((moOf nanos off zone).mo - 1) + (moOf nanos off zone).d ∧ (moOf nanos off zone).wd = (rd + 1) % 7 ∧ 1 ≤ (moOf nanos off zone).y := by
  have g := secs_ge h1 h4
  have gl := secs_lt h2 h5
  obtain ⟨t, ht⟩ : ∃ t, t = secs nanos off := ⟨_, rfl⟩
  rw [← ht] at g gl
  have e : moOf nanos off zone = moAt t (nanos % 1000000000).toNat off zone := by rw [ht]; rfl
  rw [e]
  obtain ⟨rd, hrd⟩ : ∃ rd, rd = t / 86400 := ⟨_, rfl⟩
  have hc : nsC (rd + 306) = (4 * (rd + 306) + 3) / 146097 := rfl
  obtain ⟨b1, b2, b3⟩ := yr_bounds rd (by omega)
  have ey : (moAt t (nanos % 1000000000).toNat off zone).y = yr (rd + 306) := by rw [hrd]; rfl
  have em : (moAt t (nanos % 1000000000).toNat off zone).mo = am (nsA (rd + 306)) - 12 * jf (nsA (rd + 306)) := by rw [hrd]; rfl
  have ed : (moAt t (nanos % 1000000000).toNat off zone).d = md (nsA (rd + 306)) := by rw [hrd]; rfl
  have eyd : (moAt t (nanos % 1000000000).toNat off zone).yd = rd - zd (yr (rd + 306)) + 1 := by rw [hrd]; rfl
  have ewd : (moAt t (nanos % 1000000000).toNat off zone).wd = (rd + 306 + 3) % 7 := by rw [hrd]; rfl
  have hs := (mlp_sum _ _ _ _ _ _ (Nat.le_refl 1) b3).1
  rw [ey, em, ed, eyd, ewd]
  have z : msm (lp (yr (rd + 306))) (1 - 1) = 0 := rfl
  rw [z] at hs
  have hy : 1 ≤ yr (rd + 306) := by
    rcases Nat.eq_zero_or_pos (yr (rd + 306)) with h | h
    · rw [h] at b2
      have : zd (0 + 1) = 0 := rfl
      omega
    · exact h
  exact ⟨rd, by omega, by omega, by omega, by omega, hy⟩

/-- The days of the week, Monday first. -/
def weekNames : List (List UInt8) := [[77, 111, 110, 100, 97, 121], [84, 117, 101, 115, 100, 97, 121], [87, 101, 100, 110, 101, 115, 100, 97, 121], [84, 104, 117, 114, 115, 100, 97, 121], [70, 114, 105, 100, 97, 121], [83, 97, 116, 117, 114, 100, 97, 121], [83, 117, 110, 100, 97, 121]]

theorem week_day (rd : Nat) : weekNames.getD (rd % 7) [] = dayNames.getD ((rd + 1) % 7) [] := by
  have h : rd % 7 < 7 := Nat.mod_lt _ (by omega)
  have e : (rd + 1) % 7 = (rd % 7 + 1) % 7 := by omega
  rw [e]
  have t : (List.range 7).all (fun j => decide (weekNames.getD j [] = dayNames.getD ((j + 1) % 7) [])) = true := by decide
  simpa using List.all_eq_true.1 t (rd % 7) (List.mem_range.2 h)

theorem half_eq (h : Nat) : (h + 11) % 12 + 1 = half h := by
  unfold half
  split <;> omega

theorem msm_le (l : Bool) : ∀ j : Nat, msm l j ≤ 31 * j
  | 0 => Nat.zero_le _
  | j + 1 => by
    have := msm_le l j
    have e : msm l (j + 1) = msm l j + mlen l (j + 1) := rfl
    have h : mlen l (j + 1) ≤ 31 := by
      unfold mlen
      split
      · omega
      · split
        · cases l <;> simp
        · omega
    omega
theorem msm_succ (l : Bool) {j : Nat} (h : 1 ≤ j) : msm l j = msm l (j - 1) + mlen l j := by
  obtain ⟨k, rfl⟩ : ∃ k, j = k + 1 := ⟨j - 1, by omega⟩
  rfl
end Go.Proofs.YtchmhdmapknmfaaGreatDoor.Ly

/-
  The reference's calendar: rounding down, the days ahead of a year, the days of a month.
-/
namespace Go.Proofs.YtchmhdmapknmfaaGreatDoor
open Go.RowKit Ly

set_option maxRecDepth 100000 in
set_option maxHeartbeats 1000000 in
theorem floor_4 (a : Int) (h0 : 0 ≤ a) (h1 : a ≤ 1000000000000) (w : World) : Calls Tryz.prog 91 #[.int .i64 a, .int .i64 4] w fun r w' => r = .returned (.int .i64 (a / 4)) ∧ w = w' := by
  go_enter Tryz.func91, Tryz.ntmps91
  go_wp2
  all_goals
    go_ret
    exact ⟨rfl, rfl⟩

set_option maxRecDepth 100000 in
set_option maxHeartbeats 1000000 in
theorem floor_100 (a : Int) (h0 : 0 ≤ a) (h1 : a ≤ 1000000000000) (w : World) : Calls Tryz.prog 91 #[.int .i64 a, .int .i64 100] w fun r w' => r = .returned (.int .i64 (a / 100)) ∧ w = w' := by
  go_enter Tryz.func91, Tryz.ntmps91
  go_wp2
  all_goals
    go_ret
    exact ⟨rfl, rfl⟩

set_option maxRecDepth 100000 in
set_option maxHeartbeats 1000000 in
theorem floor_400 (a : Int) (h0 : 0 ≤ a) (h1 : a ≤ 1000000000000) (w : World) : Calls Tryz.prog 91 #[.int .i64 a, .int .i64 400] w fun r w' => r = .returned (.int .i64 (a / 400)) ∧ w = w' := by
  go_enter Tryz.func91, Tryz.ntmps91
  go_wp2
  all_goals
    go_ret
    exact ⟨rfl, rfl⟩

set_option maxRecDepth 100000 in
set_option maxHeartbeats 1000000 in
theorem floor_366 (a : Int) (h0 : 0 ≤ a) (h1 : a ≤ 1000000000000) (w : World) : Calls Tryz.prog 91 #[.int .i64 a, .int .i64 366] w fun r w' => r = .returned (.int .i64 (a / 366)) ∧ w = w' := by
  go_enter Tryz.func91, Tryz.ntmps91
  go_wp2
  all_goals
    go_ret
    exact ⟨rfl, rfl⟩

set_option maxRecDepth 100000 in
set_option maxHeartbeats 1000000 in
theorem floor_7 (a : Int) (h0 : 0 ≤ a) (h1 : a ≤ 1000000000000) (w : World) : Calls Tryz.prog 91 #[.int .i64 a, .int .i64 7] w fun r w' => r = .returned (.int .i64 (a / 7)) ∧ w = w' := by
  go_enter Tryz.func91, Tryz.ntmps91
  go_wp2
  all_goals
    go_ret
    exact ⟨rfl, rfl⟩

set_option maxRecDepth 100000 in
set_option maxHeartbeats 1000000 in
theorem floor_day (a : Int) (h0 : -1000000000000 ≤ a) (h1 : a ≤ 1000000000000) (w : World) : Calls Tryz.prog 91 #[.int .i64 a, .int .i64 86400] w fun r w' => ∃ q : Int, r = .returned (.int .i64 q) ∧ q = a / 86400 ∧ w = w' := by
  by_cases c1 : a < 0
  · obtain ⟨q, hq⟩ : ∃ q : Int, q = (-a) / 86400 := ⟨_, rfl⟩
    have hd : a.tdiv 86400 = -q := by rw [tdiv_neg' c1, hq]
    have hm : a.tmod 86400 = a + 86400 * q := by
      have := Int.mul_tdiv_add_tmod a 86400
      rw [hd] at this
      omega
    have q0 : 0 ≤ q := by omega
    have q1 : q ≤ 1000000000 := by omega
    have Hq := Lib.hid hq
    clear hq
    by_cases c2 : a + 86400 * q = 0
    · go_enter Tryz.func91, Tryz.ntmps91
      go_wp2
      all_goals
        go_ret
        exact ⟨_, rfl, by have := Hq.out; omega, rfl⟩
    · go_enter Tryz.func91, Tryz.ntmps91
      go_wp2
      all_goals
        go_ret
        exact ⟨_, rfl, by have := Hq.out; omega, rfl⟩
  · have c2 : 0 ≤ a := by omega
    clear c1
    go_enter Tryz.func91, Tryz.ntmps91
    go_wp2
    all_goals
      go_ret
      exact ⟨_, rfl, rfl, rfl⟩

theorem zd_int (y : Nat) : ((zd y : Nat) : Int) = 365 * ((y - 1 : Nat) : Int) + ((y - 1 : Nat) : Int) / 4 - ((y - 1 : Nat) : Int) / 100 + ((y - 1 : Nat) : Int) / 400 := by
  unfold zd
  omega

set_option maxRecDepth 100000 in
set_option maxHeartbeats 1000000 in
theorem zdays_any (y : Nat) (x : Int) (hx : x = (y : Int)) (h1 : 1 ≤ y) (h2 : y ≤ 20000) (w : World) : Calls Tryz.prog 92 #[.int .i64 x] w fun r w' => r = .returned (.int .i64 (zd y : Nat)) ∧ w = w' := by
  obtain ⟨k, hk⟩ : ∃ k : Int, k = ((y - 1 : Nat) : Int) := ⟨_, rfl⟩
  have hz := zd_int y
  rw [← hk] at hz
  have hxk : x - 1 = k := by omega
  have k0 : 0 ≤ k := by omega
  have k1 : k ≤ 20000 := by omega
  have Hz := Lib.hid hz
  have x1 : 1 ≤ x := by omega
  have x2 : x ≤ 20000 := by omega
  clear hz hk hx h1 h2
  have F1 := Lib.hid (fun W => floor_4 k k0 (by omega) W)
  have F2 := Lib.hid (fun W => floor_100 k k0 (by omega) W)
  have F3 := Lib.hid (fun W => floor_400 k k0 (by omega) W)
  obtain ⟨q1, e1⟩ : ∃ q : Int, q = k / 4 := ⟨_, rfl⟩
  obtain ⟨q2, e2⟩ : ∃ q : Int, q = k / 100 := ⟨_, rfl⟩
  obtain ⟨q3, e3⟩ : ∃ q : Int, q = k / 400 := ⟨_, rfl⟩
  rw [← e1] at F1 Hz
  rw [← e2] at F2 Hz
  rw [← e3] at F3 Hz
  have a0 : 0 ≤ q1 := by omega
  have a1 : q1 ≤ 5000 := by omega
  have b0 : 0 ≤ q2 := by omega
  have b1 : q2 ≤ 200 := by omega
  have g0 : 0 ≤ q3 := by omega
  have g1 : q3 ≤ 50 := by omega
  clear e1 e2 e3
  go_enter Tryz.func92, Tryz.ntmps92
  go_wp2_with fail
  go_at_call 91
  refine (F1.out _).mono ?_
  rintro r w' ⟨rfl, rfl⟩
  go_wp2_with fail
  go_at_call 91
  refine (F2.out _).mono ?_
  rintro r w' ⟨rfl, rfl⟩
  go_wp2_with fail
  go_at_call 91
  refine (F3.out _).mono ?_
  rintro r w' ⟨rfl, rfl⟩
  go_wp2
  go_ret
  exact ⟨by rw [Hz.out]; rfl, rfl⟩

theorem zd_le {y : Nat} (h : y ≤ 20001) : zd y ≤ 8000000 := by
  unfold zd
  omega

set_option maxRecDepth 100000 in
set_option maxHeartbeats 1000000 in
theorem zleap_any (y : Nat) (x : Int) (hx : x = (y : Int)) (h1 : 1 ≤ y) (h2 : y ≤ 19000) (w : World) : Calls Tryz.prog 132 #[.int .i64 x] w fun r w' => r = .returned (.bool (lp y)) ∧ w = w' := by
  have H1 := Lib.hid (fun W => zdays_any (y + 1) (x + 1) (by omega) (by omega) (by omega) W)
  have H2 := Lib.hid (fun W => zdays_any y x hx h1 (by omega) W)
  have hz : zd y ≤ zd (y + 1) := by
    unfold zd
    omega
  have z1 := zd_le (y := y) (by omega)
  have z2 := zd_le (y := y + 1) (by omega)
  have e : lp y = (((zd (y + 1) : Nat) : Int) - ((zd y : Nat) : Int) == 366) := by
    unfold lp
    rw [Bool.eq_iff_iff, beq_iff_eq, beq_iff_eq]
    omega
  have x1 : 1 ≤ x := by omega
  have x2 : x ≤ 19000 := by omega
  have E := Lib.hid e
  obtain ⟨p, hp⟩ : ∃ p : Nat, p = zd (y + 1) := ⟨_, rfl⟩
  obtain ⟨q, hq⟩ : ∃ q : Nat, q = zd y := ⟨_, rfl⟩
  rw [← hp] at H1 z2 hz E
  rw [← hq] at H2 z1 hz E
  have p1 : (p : Int) ≤ 8000000 := by omega
  have q1 : (q : Int) ≤ 8000000 := by omega
  clear hx h1 h2 e hp hq z1 z2 hz
  go_enter Tryz.func132, Tryz.ntmps132
  go_wp2_with fail
  go_at_call 92
  refine (H1.out _).mono ?_
  rintro r w' ⟨rfl, rfl⟩
  go_wp2_with fail
  go_at_call 92
  refine (H2.out _).mono ?_
  rintro r w' ⟨rfl, rfl⟩
  go_wp2
  go_ret
  exact ⟨by rw [E.out]; rfl, rfl⟩

set_option maxRecDepth 100000 in
set_option maxHeartbeats 1000000 in
theorem zmonth_any (y m : Nat) (x z : Int) (hx : x = (y : Int)) (hz : z = (m : Int)) (h1 : 1 ≤ y) (h2 : y ≤ 19000) (w : World) : Calls Tryz.prog 93 #[.int .i64 x, .int .i64 z] w fun r w' => r = .returned (.int .i64 (mlen (lp y) m : Nat)) ∧ w = w' := by
  have H1 := Lib.hid (fun W => zleap_any y x hx h1 h2 W)
  clear hx h1 h2
  subst hz
  by_cases c1 : m = 4
  · subst c1
    go_enter Tryz.func93, Tryz.ntmps93
    go_wp2
    go_ret
    exact ⟨rfl, rfl⟩
  by_cases c2 : m = 6
  · subst c2
    go_enter Tryz.func93, Tryz.ntmps93
    go_wp2
    go_ret
    exact ⟨rfl, rfl⟩
  by_cases c3 : m = 9
  · subst c3
    go_enter Tryz.func93, Tryz.ntmps93
    go_wp2
    go_ret
    exact ⟨rfl, rfl⟩
  by_cases c4 : m = 11
  · subst c4
    go_enter Tryz.func93, Tryz.ntmps93
    go_wp2
    go_ret
    exact ⟨rfl, rfl⟩
  by_cases c5 : m = 2
  · subst c5
    cases hl : lp y with
    | true =>
      rw [hl] at H1
      go_enter Tryz.func93, Tryz.ntmps93
      go_wp2_with (go_at_call 132; refine (H1.out _).mono ?_; rintro r w' ⟨rfl, rfl⟩)
      go_ret
      exact ⟨rfl, rfl⟩
    | false =>
      rw [hl] at H1
      go_enter Tryz.func93, Tryz.ntmps93
      go_wp2_with (go_at_call 132; refine (H1.out _).mono ?_; rintro r w' ⟨rfl, rfl⟩)
      go_ret
      exact ⟨rfl, rfl⟩
  have e : mlen (lp y) m = 31 := by
    unfold mlen
    rw [if_neg (by omega), if_neg c5]
  have E := Lib.hid e
  have d1 : ((m : Int) == 4) = false := beq_eq_false_iff_ne.2 (by omega)
  have d2 : ((m : Int) == 6) = false := beq_eq_false_iff_ne.2 (by omega)
  have d3 : ((m : Int) == 9) = false := beq_eq_false_iff_ne.2 (by omega)
  have d4 : ((m : Int) == 11) = false := beq_eq_false_iff_ne.2 (by omega)
  have d5 : ((m : Int) == 2) = false := beq_eq_false_iff_ne.2 (by omega)
  clear c1 c2 c3 c4 c5 e
  go_enter Tryz.func93, Tryz.ntmps93
  go_wp2
  go_ret
  exact ⟨by rw [E.out]; rfl, rfl⟩
end Go.Proofs.YtchmhdmapknmfaaGreatDoor

/-
  The reference's moment of so many nanoseconds at a place: ZAt.
-/
namespace Go.Proofs.YtchmhdmapknmfaaGreatDoor
open Go.RowKit Ly
attribute [local go_sem ↓] Go.wp_at_zero Go.wp_at_succ

/-- A block of seven whole numbers. -/
def Blk7 (p : Nat) (y mo d h mi s na : Int) (w : World) : Prop :=
  w.heap[p]? = some (.cells #[.int .i64 y, .int .i64 mo, .int .i64 d, .int .i64 h, .int .i64 mi, .int .i64 s, .int .i64 na] 106 (0, 0))

theorem Blk7.cells {p : Nat} {y mo d h mi s na : Int} {w : World} (H : Blk7 p y mo d h mi s na w) :
    w.cell? ⟨p, 0, none⟩ = some (.int .i64 y) ∧ w.cell? ⟨p, 1, none⟩ = some (.int .i64 mo) ∧ w.cell? ⟨p, 2, none⟩ = some (.int .i64 d) ∧ w.cell? ⟨p, 3, none⟩ = some (.int .i64 h) ∧
      w.cell? ⟨p, 4, none⟩ = some (.int .i64 mi) ∧ w.cell? ⟨p, 5, none⟩ = some (.int .i64 s) ∧ w.cell? ⟨p, 6, none⟩ = some (.int .i64 na) := by
  unfold Blk7 at H
  refine ⟨?_, ?_, ?_, ?_, ?_, ?_, ?_⟩ <;> simp [World.cell?, H]
theorem Blk7.frozen {p : Nat} {y mo d h mi s na : Int} {w : World} (H : Blk7 p y mo d h mi s na w) (i : Nat) : w.frozen? ⟨p, i, none⟩ = false := by
  unfold Blk7 at H
  simp [World.frozen?, H]
theorem Blk7.set0 {p : Nat} {y mo d h mi s na : Int} {w : World} (H : Blk7 p y mo d h mi s na w) (x : Int) : Blk7 p x mo d h mi s na (w.setCell ⟨p, 0, none⟩ (.int .i64 x)) :=
  heap_set (cs := [_, _, _, _, _, _, _]) H 0 _
theorem Blk7.set1 {p : Nat} {y mo d h mi s na : Int} {w : World} (H : Blk7 p y mo d h mi s na w) (x : Int) : Blk7 p y x d h mi s na (w.setCell ⟨p, 1, none⟩ (.int .i64 x)) :=
  heap_set (cs := [_, _, _, _, _, _, _]) H 1 _
theorem Blk7.set2 {p : Nat} {y mo d h mi s na : Int} {w : World} (H : Blk7 p y mo d h mi s na w) (x : Int) : Blk7 p y mo x h mi s na (w.setCell ⟨p, 2, none⟩ (.int .i64 x)) :=
  heap_set (cs := [_, _, _, _, _, _, _]) H 2 _
theorem Blk7.put {p : Nat} {y mo d h mi s na : Int} {w : World} (H : Blk7 p y mo d h mi s na w) (a b c e f g k : Int) :
    Blk7 p a b c e f g k (((((((w.setCell ⟨p, 0, none⟩ (.int .i64 a)).setCell ⟨p, 1, none⟩ (.int .i64 b)).setCell ⟨p, 2, none⟩ (.int .i64 c)).setCell ⟨p, 3, none⟩ (.int .i64 e)).setCell ⟨p, 4, none⟩ (.int .i64 f)).setCell ⟨p, 5, none⟩ (.int .i64 g)).setCell ⟨p, 6, none⟩ (.int .i64 k)) :=
  heap_set (cs := [_, _, _, _, _, _, _]) (heap_set (cs := [_, _, _, _, _, _, _]) (heap_set (cs := [_, _, _, _, _, _, _]) (heap_set (cs := [_, _, _, _, _, _, _]) (heap_set (cs := [_, _, _, _, _, _, _]) (heap_set (cs := [_, _, _, _, _, _, _]) (heap_set (cs := [_, _, _, _, _, _, _]) H 0 _) 1 _) 2 _) 3 _) 4 _) 5 _) 6 _
theorem Blk7.other {p q i : Nat} {y mo d h mi s na : Int} {w : World} (H : Blk7 p y mo d h mi s na w) (hq : q ≠ p) (v : Value) : Blk7 p y mo d h mi s na (w.setCell ⟨q, i, none⟩ v) := by
  unfold Blk7 at *
  have e : (w.setCell ⟨q, i, none⟩ v).heap[p]? = w.heap[p]? := by
    show (w.heap.modify q _)[p]? = _
    rw [Array.getElem?_modify, if_neg hq]
  rw [e]
  exact H

/-- The year grows. -/
def YrRel (rd : Nat) (h mi s na : Int) (w wr : World) : Prop :=
  ∃ y : Nat, Blk7 (w.heap.size + 1) y 0 0 h mi s na wr ∧ Blk7 w.heap.size 0 0 0 0 0 0 0 wr ∧ 1 ≤ y ∧ zd y ≤ rd ∧ Below w.heap.size w wr
/-- The months go by. -/
def MnRel (Y MO D : Nat) (h mi s na : Int) (w : World) (v8 : Value) (wr : World) : Prop :=
  ∃ m d k : Nat, v8 = .int .i64 (d : Int) ∧ Blk7 (w.heap.size + 1) Y m 0 h mi s na wr ∧ Blk7 w.heap.size 0 0 0 0 0 0 0 wr ∧ 1 ≤ m ∧ m + k = 13 ∧ d ≤ 400 ∧ mlp (lp Y) k m d = (MO, D) ∧ Below w.heap.size w wr

def atV (y mo d h mi s na : Nat) : Value := .agg #[.int .i64 y, .int .i64 mo, .int .i64 d, .int .i64 h, .int .i64 mi, .int .i64 s, .int .i64 na]

theorem mlen_ge (l : Bool) (m : Nat) : 28 ≤ mlen l m ∧ mlen l m ≤ 31 := by
  unfold mlen
  split
  · omega
  · split
    · cases l <;> simp
    · omega

theorem lp_Y {Y : Nat} (h : 1 ≤ Y) : zd (Y + 1) ≤ zd Y + 366 := by
  unfold zd
  omega

set_option maxRecDepth 100000 in
set_option maxHeartbeats 8000000 in
theorem at_any (N off : Int) (w : World) (h1 : -9223372036854775808 ≤ N) (h2 : N ≤ 9223372036854775807) (h4 : -86400 < off) (h5 : off < 86400) :
    Calls Tryz.prog 52 #[.int .i64 N, .int .i64 off] w fun r w' => r = .returned (atV (moOf N off []).y (moOf N off []).mo (moOf N off []).d (moOf N off []).h (moOf N off []).mi (moOf N off []).s (moOf N off []).na) ∧ Below w.heap.size w w' := by
  obtain ⟨t, ht⟩ : ∃ t, t = secs N off := ⟨_, rfl⟩
  have hg := secs_ge h1 h4
  have hl := secs_lt h2 h5
  rw [← ht] at hg hl
  obtain ⟨rd, hrd⟩ : ∃ rd, rd = t / 86400 := ⟨_, rfl⟩
  have hc : nsC (rd + 306) = (4 * (rd + 306) + 3) / 146097 := rfl
  obtain ⟨b1, b2, b3⟩ := yr_bounds rd (by omega)
  obtain ⟨Y, hY⟩ : ∃ Y, Y = yr (rd + 306) := ⟨_, rfl⟩
  obtain ⟨MO, hMO⟩ : ∃ MO, MO = am (nsA (rd + 306)) - 12 * jf (nsA (rd + 306)) := ⟨_, rfl⟩
  obtain ⟨D, hD⟩ : ∃ D, D = md (nsA (rd + 306)) := ⟨_, rfl⟩
  obtain ⟨na, hna⟩ : ∃ na, na = (N % 1000000000).toNat := ⟨_, rfl⟩
  obtain ⟨NA, hNA⟩ : ∃ NA : Int, NA = (na : Int) := ⟨_, rfl⟩
  obtain ⟨S, hS⟩ : ∃ S : Int, S = N / 1000000000 := ⟨_, rfl⟩
  have hpost : atV (moOf N off []).y (moOf N off []).mo (moOf N off []).d (moOf N off []).h (moOf N off []).mi (moOf N off []).s (moOf N off []).na = atV Y MO D (t % 86400 / 3600) (t % 86400 % 3600 / 60) (t % 86400 % 60) na := by
    rw [hY, hMO, hD, hna, hrd, ht]
    rfl
  rw [hpost]
  rw [← hY] at b1 b2 b3
  rw [← hMO, ← hD] at b3
  obtain ⟨hy1, hmo1, hmo12, hY2⟩ : 1 ≤ Y ∧ 1 ≤ MO ∧ MO ≤ 12 ∧ Y < 10000 := by
    have ok := moAt_ok (t := t) (na := 0) (off := 0) (zone := []) hg.1 hl (by omega) (by omega) (by omega) (by omega) (by simp)
    have e1 : (moAt t 0 0 []).y = Y := by rw [hY, hrd]; rfl
    have e2 : (moAt t 0 0 []).mo = MO := by rw [hMO, hrd]; rfl
    have k1 := ok.y
    have k2 := ok.mo1
    have k3 := ok.mo
    rw [e1] at k1
    rw [e2] at k2 k3
    have : Y ≠ 0 := by
      intro e
      rw [e] at b2
      have : zd (0 + 1) = 0 := rfl
      omega
    omega
  have hY366 := lp_Y hy1
  have key : (∃ r0 s0 : Int, N.tdiv 1000000000 = s0 ∧ N.tmod 1000000000 = r0 ∧ 0 ≤ r0 ∧ r0 < 1000000000 ∧ S = s0 ∧ NA = r0) ∨ (∃ r0 s0 : Int, N.tdiv 1000000000 = s0 ∧ N.tmod 1000000000 = r0 ∧ r0 < 0 ∧ -1000000000 < r0 ∧ s0 - 1 = S ∧ r0 + 1000000000 = NA) := by
    have hd := Int.mul_tdiv_add_tmod N 1000000000
    by_cases c1 : N < 0
    · have e := tdiv_neg' (k := 1000000000) c1
      by_cases c2 : N % 1000000000 = 0
      · exact .inl ⟨_, _, rfl, rfl, by omega, by omega, by omega, by omega⟩
      · exact .inr ⟨_, _, rfl, rfl, by omega, by omega, by omega, by omega⟩
    · have e : N.tdiv 1000000000 = N / 1000000000 := Int.tdiv_eq_ediv_of_nonneg (by omega)
      exact .inl ⟨_, _, rfl, rfl, by omega, by omega, by omega, by omega⟩
  have S0 : -10000000000 ≤ S := by omega
  have S1 : S ≤ 10000000000 := by omega
  have hSt : S + off + 62135596800 = (t : Int) := by rw [hS]; omega
  have HF := Lib.hid (fun (x : Int) (W : World) (hx : x = S + off) => (floor_day x (by omega) (by omega) W).mono (fun r w' (h : ∃ q : Int, r = .returned (.int .i64 q) ∧ q = x / 86400 ∧ W = w') => (by
    obtain ⟨q, h1, h2, h3⟩ := h
    refine ⟨q, h1, ?_, ?_, ?_, ?_, h3⟩ <;> omega : ∃ q : Int, r = .returned (.int .i64 q) ∧ q + 719162 = rd ∧ S + off - 86400 * q = ((t % 86400 : Nat) : Int) ∧ -719162 ≤ q ∧ q ≤ 5000000 ∧ W = w')))
  have H70 := Lib.hid (fun (W : World) => zdays_any 1970 1970 rfl (by omega) (by omega) W)
  rw [show zd 1970 = 719162 from rfl] at H70
  have HB := Lib.hid (And.intro b1 (And.intro b2 (And.intro b3 (And.intro hy1 (And.intro hmo1 (And.intro hmo12 (And.intro hY2 hY366)))))))
  have Hrd := Lib.hid (And.intro hrd hl)
  have Hna := Lib.hid hNA
  have n0 : 0 ≤ NA := by omega
  have n1 : NA < 1000000000 := by omega
  clear hg hl hc b1 b2 b3 hY hMO hD hna hNA hS hpost hy1 hmo1 hmo12 hY2 hY366 ht hrd h1 h2 hSt
  rcases key with ⟨r0, s0, k1, k2, k3, k4, k5, k6⟩ | ⟨r0, s0, k1, k2, k3, k4, k5, k6⟩
  · have s1 : -10000000001 ≤ s0 := by omega
    have s2 : s0 ≤ 10000000001 := by omega
    subst k5
    subst k6
    go_enter Tryz.func52, Tryz.ntmps52
    go_wp2_with fail
    go_at_call 91
    refine (HF.out _ _ rfl).mono ?_
    rintro r w1 ⟨q, rfl, hq1, hq2, hq3, hq4, rfl⟩
    have l0 : (0 : Int) ≤ ((t % 86400 : Nat) : Int) := by omega
    have l1 : ((t % 86400 : Nat) : Int) < 86400 := by omega
    obtain ⟨lt, hlt⟩ : ∃ lt : Int, lt = ((t % 86400 : Nat) : Int) := ⟨_, rfl⟩
    rw [← hlt] at hq2 l0 l1
    have Hlt := Lib.hid hlt
    have Hq := Lib.hid hq1
    clear hq1 hlt
    go_wp2_with fail
    go_at_call 92
    refine (H70.out _).mono ?_
    rintro r w1 ⟨rfl, rfl⟩
    go_wp2_with fail
    go_at_call 91
    refine (floor_366 _ (by omega) (by omega) _).mono ?_
    rintro r w1 ⟨rfl, rfl⟩
    have e0 : 0 ≤ (q + 719162) / 366 := by omega
    have e1 : (q + 719162) / 366 < 100000 := by omega
    go_wp2_with fail
    have hst : Blk7 (w.heap.size + 1) ((1 + rd / 366 : Nat) : Int) 0 0 (lt / 3600) (lt / 60 % 60) (lt % 60) NA ((w.alloc (.cells #[.int .i64 0, .int .i64 0, .int .i64 0, .int .i64 0, .int .i64 0, .int .i64 0, .int .i64 0] 106)).alloc
        (.cells #[.int .i64 (1 + (q + 719162) / 366), .int .i64 0, .int .i64 0, .int .i64 (lt / 3600), .int .i64 (lt / 60 % 60), .int .i64 (lt % 60), .int .i64 NA] 106)) := by
      have h3 := heap_alloc_new (w.alloc (.cells #[.int .i64 0, .int .i64 0, .int .i64 0, .int .i64 0, .int .i64 0, .int .i64 0, .int .i64 0] 106)) (.cells #[.int .i64 (1 + (q + 719162) / 366), .int .i64 0, .int .i64 0, .int .i64 (lt / 3600), .int .i64 (lt / 60 % 60), .int .i64 (lt % 60), .int .i64 NA] 106)
      have e : (w.alloc (.cells #[.int .i64 0, .int .i64 0, .int .i64 0, .int .i64 0, .int .i64 0, .int .i64 0, .int .i64 0] 106)).heap.size = w.heap.size + 1 := by simp
      rw [e] at h3
      have e2 : (1 : Int) + (q + 719162) / 366 = ((1 + rd / 366 : Nat) : Int) := by have := Hq.out; omega
      rw [e2] at h3
      rw [e2]
      exact h3
    have hst2 : Blk7 w.heap.size 0 0 0 0 0 0 0 ((w.alloc (.cells #[.int .i64 0, .int .i64 0, .int .i64 0, .int .i64 0, .int .i64 0, .int .i64 0, .int .i64 0] 106)).alloc
        (.cells #[.int .i64 (1 + (q + 719162) / 366), .int .i64 0, .int .i64 0, .int .i64 (lt / 3600), .int .i64 (lt / 60 % 60), .int .i64 (lt % 60), .int .i64 NA] 106)) := by
      have h3 := heap_alloc_new w (.cells #[.int .i64 0, .int .i64 0, .int .i64 0, .int .i64 0, .int .i64 0, .int .i64 0, .int .i64 0] 106)
      unfold Blk7
      rw [((Below.refl _ (w.alloc (.cells #[.int .i64 0, .int .i64 0, .int .i64 0, .int .i64 0, .int .i64 0, .int .i64 0, .int .i64 0] 106))).alloc (Nat.le_refl _) _).block _ (by simp)]
      exact h3
    have Hst := Lib.hid (And.intro hst hst2)
    clear hst hst2
    go_loopw [] (fun wr => YrRel rd (lt / 3600) (lt / 60 % 60) (lt % 60) NA w wr) (fun wr => Y - (intOf ((wr.cell? ⟨w.heap.size + 1, 0, none⟩).getD (.int .i64 0))).toNat)
    case atStart =>
      refine ⟨1 + rd / 366, Hst.out.1, Hst.out.2, by omega, ?_, ((Below.refl _ w).alloc (Nat.le_refl _) _).alloc (by simp) _⟩
      unfold zd
      omega
    case round =>
      obtain ⟨y, hb, hb0, hy1, hyd, hbel⟩ := hrel
      obtain ⟨z0, z1, z2, z3, z4, z5, z6⟩ := hb.cells
      have f0 := hb.frozen 0
      have f1 := hb.frozen 1
      have hyY : y ≤ Y := by
        rcases Nat.lt_or_ge Y y with h | h
        · have h1 := zd_mono (a := Y + 1) (b := y) (by omega)
          have := HB.out.2.1
          omega
        · exact h
      have y1 : (y : Int) < 10000 := by have := HB.out.2.2.2.2.2.2.1; omega
      have HZ := Lib.hid (fun (x : Int) (W : World) (hx : x = (y : Int) + 1) => zdays_any (y + 1) x (by omega) (by omega) (by omega) W)
      have HZ0 := Lib.hid (fun (W : World) => zdays_any y y rfl (by omega) (by omega) W)
      have Hb := Lib.hid hb
      have Hb0 := Lib.hid hb0
      have Hbel := Lib.hid hbel
      by_cases hc : zd (y + 1) ≤ rd
      · have hc' : ((zd (y + 1) : Nat) : Int) ≤ q + 719162 := by have := Hq.out; omega
        clear hb hb0 hbel
        go_wp2_with fail
        go_at_call 92
        refine (HZ.out _ _ rfl).mono ?_
        rintro r w1 ⟨rfl, rfl⟩
        have hY1 : y + 1 ≤ Y := by
          rcases Nat.lt_or_ge y Y with h | h
          · omega
          · have e : y = Y := by omega
            rw [e] at hc
            have := HB.out.2.1
            omega
        go_wp2
        rw [show (y : Int) + 1 = ((y + 1 : Nat) : Int) by omega]
        have hn := Hb.out.set0 ((y + 1 : Nat) : Int)
        refine ⟨⟨y + 1, hn, Hb0.out.other (by omega) _, by omega, hc, Hbel.out.setCell (p := ⟨w.heap.size + 1, 0, none⟩) (by show w.heap.size ≤ w.heap.size + 1; omega) _⟩, ?_⟩
        rw [hn.cells.1, z0]
        simp only [Option.getD_some, intOf]
        omega
      · have hyY2 : y = Y := by
          have h1 := HB.out.1
          have h2 := HB.out.2.1
          exact year_one hyd (by omega) h1 h2
        subst hyY2
        have hc' : q + 719162 < ((zd (y + 1) : Nat) : Int) := by have := Hq.out; omega
        have zy0 : ((zd y : Nat) : Int) ≤ q + 719162 := by have := Hq.out; omega
        have zy1 : q + 719162 - ((zd y : Nat) : Int) = ((rd - zd y : Nat) : Int) := by have := Hq.out; omega
        have zy2 : rd - zd y ≤ 400 := by have := HB.out.2.2.2.2.2.2.2; omega
        have HM := Lib.hid (fun (m : Nat) (z : Int) (W : World) (hz : z = (m : Int)) => zmonth_any y m y z rfl hz (by omega) (by omega) W)
        clear hb hb0 hbel
        go_wp2_with fail
        go_at_call 92
        refine (HZ.out _ _ rfl).mono ?_
        rintro r w1 ⟨rfl, rfl⟩
        go_wp2_with fail
        go_at_call 92
        refine (HZ0.out _).mono ?_
        rintro r w1 ⟨rfl, rfl⟩
        go_wp2_with fail
        have hb1 := Hb.out.set1 1
        have hb01 := Hb0.out.other (q := w.heap.size + 1) (i := 1) (by omega) (.int .i64 1)
        have hbel1 := Hbel.out.setCell (p := ⟨w.heap.size + 1, 1, none⟩) (by show w.heap.size ≤ w.heap.size + 1; omega) (.int .i64 1)
        have Hs1 := Lib.hid (And.intro hb1 (And.intro hb01 hbel1))
        clear hb1 hb01 hbel1 z0 z1 z2 z3 z4 z5 z6 f0 f1
        go_loopw [8] (fun v8 w8 => MnRel y MO D (lt / 3600) (lt / 60 % 60) (lt % 60) NA w v8 w8) (fun v8 _ => (intOf v8).toNat)
        case atStart => exact ⟨1, rd - zd y, 12, rfl, Hs1.out.1, Hs1.out.2.1, by omega, by omega, zy2, HB.out.2.2.1, Hs1.out.2.2⟩
        case round =>
          obtain ⟨m, d, k, rfl, hb, hb0, hm1, hmk, hd4, hmlp, hbel⟩ := hrel
          obtain ⟨z0, z1, z2, z3, z4, z5, z6⟩ := hb.cells
          obtain ⟨x0, x1, x2, x3, x4, x5, x6⟩ := hb0.cells
          have f0 := hb.frozen 0
          have f1 := hb.frozen 1
          have f2 := hb.frozen 2
          have g0 := hb0.frozen 0
          have g1 := hb0.frozen 1
          have g2 := hb0.frozen 2
          have g3 := hb0.frozen 3
          have g4 := hb0.frozen 4
          have g5 := hb0.frozen 5
          have g6 := hb0.frozen 6
          have ml := mlen_ge (lp y) m
          obtain ⟨j, rfl⟩ : ∃ j, k = j + 1 := by
            cases k with
            | zero =>
              have e1 := congrArg Prod.fst hmlp
              have e2 : (mlp (lp y) 0 m d).1 = m := rfl
              have := HB.out.2.2.2.2.2.1
              simp only at e1
              omega
            | succ j => exact ⟨j, rfl⟩
          have Hb := Lib.hid hb
          have Hb0 := Lib.hid hb0
          have Hbel := Lib.hid hbel
          have d4 : (d : Int) ≤ 400 := by omega
          have m4 : (m : Int) ≤ 13 := by omega
          by_cases hc2 : mlen (lp y) m ≤ d
          · have hstep : mlp (lp y) j (m + 1) (d - mlen (lp y) m) = (MO, D) := by
              rw [← hmlp]
              show _ = (if mlen (lp y) m ≤ d then mlp (lp y) j (m + 1) (d - mlen (lp y) m) else (m, d + 1))
              rw [if_pos hc2]
            have hc3 : ((mlen (lp y) m : Nat) : Int) ≤ (d : Int) := by omega
            have ml1 : ((mlen (lp y) m : Nat) : Int) ≤ 31 := by omega
            clear hb hb0 hbel x0 x1 x2 x3 x4 x5 x6 g0 g1 g2 g3 g4 g5 g6
            go_wp2_with fail
            go_at_call 93
            refine (HM.out m _ _ rfl).mono ?_
            rintro r w1 ⟨rfl, rfl⟩
            go_wp2_with fail
            go_at_call 93
            refine (HM.out m _ _ rfl).mono ?_
            rintro r w1 ⟨rfl, rfl⟩
            go_wp2
            have hn := Hb.out.set1 ((m + 1 : Nat) : Int)
            rw [show (m : Int) + 1 = ((m + 1 : Nat) : Int) by omega]
            refine ⟨⟨m + 1, d - mlen (lp y) m, j, ?_, hn, Hb0.out.other (by omega) _, by omega, by omega, by omega, hstep, Hbel.out.setCell (p := ⟨w.heap.size + 1, 1, none⟩) (by show w.heap.size ≤ w.heap.size + 1; omega) _⟩, ?_⟩
            · congr 1
              omega
            · simp only [intOf]
              omega
          · have hexit : (m, d + 1) = (MO, D) := by
              rw [← hmlp]
              show _ = (if mlen (lp y) m ≤ d then mlp (lp y) j (m + 1) (d - mlen (lp y) m) else (m, d + 1))
              rw [if_neg hc2]
            obtain ⟨rfl, rfl⟩ := Prod.mk.inj hexit
            have hc3 : (d : Int) < ((mlen (lp y) m : Nat) : Int) := by omega
            have ml1 : ((mlen (lp y) m : Nat) : Int) ≤ 31 := by omega
            clear hb hb0 hbel
            go_wp2_with fail
            go_at_call 93
            refine (HM.out m _ _ rfl).mono ?_
            rintro r w1 ⟨rfl, rfl⟩
            go_wp2
            have hput := (Hb0.out.other (q := w.heap.size + 1) (i := 2) (by omega) (.int .i64 ((d : Int) + 1))).put (y : Int) (m : Int) ((d : Int) + 1) (lt / 3600) (lt / 60 % 60) (lt % 60) NA
            obtain ⟨r0', r1, r2, r3, r4, r5, r6⟩ := hput.cells
            refine bodyPost_ret (v := .agg #[.int .i64 (y : Int), .int .i64 (m : Int), .int .i64 ((d : Int) + 1), .int .i64 (lt / 3600), .int .i64 (lt / 60 % 60), .int .i64 (lt % 60), .int .i64 NA]) (by simp [results, Tryz.results52, go_sem, r0', r1, r2, r3, r4, r5, r6]) rfl ⟨?_, ?_⟩
            · have e1 : lt / 3600 = ((t % 86400 / 3600 : Nat) : Int) := by have := Hlt.out; omega
              have e2 : lt / 60 % 60 = ((t % 86400 % 3600 / 60 : Nat) : Int) := by have := Hlt.out; omega
              have e3 : lt % 60 = ((t % 86400 % 60 : Nat) : Int) := by have := Hlt.out; omega
              have e4 : NA = ((na : Nat) : Int) := Hna.out
              have e5 : (d : Int) + 1 = ((d + 1 : Nat) : Int) := by omega
              rw [e1, e2, e3, e4, e5]
              rfl
            · exact (((((((Hbel.out.setCell (p := ⟨w.heap.size + 1, 2, none⟩) (Nat.le_succ _) _).setCell (p := ⟨w.heap.size, 0, none⟩) (Nat.le_refl _) _).setCell (p := ⟨w.heap.size, 1, none⟩) (Nat.le_refl _) _).setCell (p := ⟨w.heap.size, 2, none⟩) (Nat.le_refl _) _).setCell (p := ⟨w.heap.size, 3, none⟩) (Nat.le_refl _) _).setCell (p := ⟨w.heap.size, 4, none⟩) (Nat.le_refl _) _).setCell (p := ⟨w.heap.size, 5, none⟩) (Nat.le_refl _) _).setCell (p := ⟨w.heap.size, 6, none⟩) (Nat.le_refl _) _
  · have s1 : -10000000001 ≤ s0 := by omega
    have s2 : s0 ≤ 10000000001 := by omega
    subst k5
    subst k6
    go_enter Tryz.func52, Tryz.ntmps52
    go_wp2_with fail
    go_at_call 91
    refine (HF.out _ _ rfl).mono ?_
    rintro r w1 ⟨q, rfl, hq1, hq2, hq3, hq4, rfl⟩
    have l0 : (0 : Int) ≤ ((t % 86400 : Nat) : Int) := by omega
    have l1 : ((t % 86400 : Nat) : Int) < 86400 := by omega
    obtain ⟨lt, hlt⟩ : ∃ lt : Int, lt = ((t % 86400 : Nat) : Int) := ⟨_, rfl⟩
    rw [← hlt] at hq2 l0 l1
    have Hlt := Lib.hid hlt
    have Hq := Lib.hid hq1
    clear hq1 hlt
    go_wp2_with fail
    go_at_call 92
    refine (H70.out _).mono ?_
    rintro r w1 ⟨rfl, rfl⟩
    go_wp2_with fail
    go_at_call 91
    refine (floor_366 _ (by omega) (by omega) _).mono ?_
    rintro r w1 ⟨rfl, rfl⟩
    have e0 : 0 ≤ (q + 719162) / 366 := by omega
    have e1 : (q + 719162) / 366 < 100000 := by omega
    go_wp2_with fail
    have hst : Blk7 (w.heap.size + 1) ((1 + rd / 366 : Nat) : Int) 0 0 (lt / 3600) (lt / 60 % 60) (lt % 60) (r0 + 1000000000) ((w.alloc (.cells #[.int .i64 0, .int .i64 0, .int .i64 0, .int .i64 0, .int .i64 0, .int .i64 0, .int .i64 0] 106)).alloc
        (.cells #[.int .i64 (1 + (q + 719162) / 366), .int .i64 0, .int .i64 0, .int .i64 (lt / 3600), .int .i64 (lt / 60 % 60), .int .i64 (lt % 60), .int .i64 (r0 + 1000000000)] 106)) := by
      have h3 := heap_alloc_new (w.alloc (.cells #[.int .i64 0, .int .i64 0, .int .i64 0, .int .i64 0, .int .i64 0, .int .i64 0, .int .i64 0] 106)) (.cells #[.int .i64 (1 + (q + 719162) / 366), .int .i64 0, .int .i64 0, .int .i64 (lt / 3600), .int .i64 (lt / 60 % 60), .int .i64 (lt % 60), .int .i64 (r0 + 1000000000)] 106)
      have e : (w.alloc (.cells #[.int .i64 0, .int .i64 0, .int .i64 0, .int .i64 0, .int .i64 0, .int .i64 0, .int .i64 0] 106)).heap.size = w.heap.size + 1 := by simp
      rw [e] at h3
      have e2 : (1 : Int) + (q + 719162) / 366 = ((1 + rd / 366 : Nat) : Int) := by have := Hq.out; omega
      rw [e2] at h3
      rw [e2]
      exact h3
    have hst2 : Blk7 w.heap.size 0 0 0 0 0 0 0 ((w.alloc (.cells #[.int .i64 0, .int .i64 0, .int .i64 0, .int .i64 0, .int .i64 0, .int .i64 0, .int .i64 0] 106)).alloc
        (.cells #[.int .i64 (1 + (q + 719162) / 366), .int .i64 0, .int .i64 0, .int .i64 (lt / 3600), .int .i64 (lt / 60 % 60), .int .i64 (lt % 60), .int .i64 (r0 + 1000000000)] 106)) := by
      have h3 := heap_alloc_new w (.cells #[.int .i64 0, .int .i64 0, .int .i64 0, .int .i64 0, .int .i64 0, .int .i64 0, .int .i64 0] 106)
      unfold Blk7
      rw [((Below.refl _ (w.alloc (.cells #[.int .i64 0, .int .i64 0, .int .i64 0, .int .i64 0, .int .i64 0, .int .i64 0, .int .i64 0] 106))).alloc (Nat.le_refl _) _).block _ (by simp)]
      exact h3
    have Hst := Lib.hid (And.intro hst hst2)
    clear hst hst2
    go_loopw [] (fun wr => YrRel rd (lt / 3600) (lt / 60 % 60) (lt % 60) (r0 + 1000000000) w wr) (fun wr => Y - (intOf ((wr.cell? ⟨w.heap.size + 1, 0, none⟩).getD (.int .i64 0))).toNat)
    case atStart =>
      refine ⟨1 + rd / 366, Hst.out.1, Hst.out.2, by omega, ?_, ((Below.refl _ w).alloc (Nat.le_refl _) _).alloc (by simp) _⟩
      unfold zd
      omega
    case round =>
      obtain ⟨y, hb, hb0, hy1, hyd, hbel⟩ := hrel
      obtain ⟨z0, z1, z2, z3, z4, z5, z6⟩ := hb.cells
      have f0 := hb.frozen 0
      have f1 := hb.frozen 1
      have hyY : y ≤ Y := by
        rcases Nat.lt_or_ge Y y with h | h
        · have h1 := zd_mono (a := Y + 1) (b := y) (by omega)
          have := HB.out.2.1
          omega
        · exact h
      have y1 : (y : Int) < 10000 := by have := HB.out.2.2.2.2.2.2.1; omega
      have HZ := Lib.hid (fun (x : Int) (W : World) (hx : x = (y : Int) + 1) => zdays_any (y + 1) x (by omega) (by omega) (by omega) W)
      have HZ0 := Lib.hid (fun (W : World) => zdays_any y y rfl (by omega) (by omega) W)
      have Hb := Lib.hid hb
      have Hb0 := Lib.hid hb0
      have Hbel := Lib.hid hbel
      by_cases hc : zd (y + 1) ≤ rd
      · have hc' : ((zd (y + 1) : Nat) : Int) ≤ q + 719162 := by have := Hq.out; omega
        clear hb hb0 hbel
        go_wp2_with fail
        go_at_call 92
        refine (HZ.out _ _ rfl).mono ?_
        rintro r w1 ⟨rfl, rfl⟩
        have hY1 : y + 1 ≤ Y := by
          rcases Nat.lt_or_ge y Y with h | h
          · omega
          · have e : y = Y := by omega
            rw [e] at hc
            have := HB.out.2.1
            omega
        go_wp2
        rw [show (y : Int) + 1 = ((y + 1 : Nat) : Int) by omega]
        have hn := Hb.out.set0 ((y + 1 : Nat) : Int)
        refine ⟨⟨y + 1, hn, Hb0.out.other (by omega) _, by omega, hc, Hbel.out.setCell (p := ⟨w.heap.size + 1, 0, none⟩) (by show w.heap.size ≤ w.heap.size + 1; omega) _⟩, ?_⟩
        rw [hn.cells.1, z0]
        simp only [Option.getD_some, intOf]
        omega
      · have hyY2 : y = Y := by
          have h1 := HB.out.1
          have h2 := HB.out.2.1
          exact year_one hyd (by omega) h1 h2
        subst hyY2
        have hc' : q + 719162 < ((zd (y + 1) : Nat) : Int) := by have := Hq.out; omega
        have zy0 : ((zd y : Nat) : Int) ≤ q + 719162 := by have := Hq.out; omega
        have zy1 : q + 719162 - ((zd y : Nat) : Int) = ((rd - zd y : Nat) : Int) := by have := Hq.out; omega
        have zy2 : rd - zd y ≤ 400 := by have := HB.out.2.2.2.2.2.2.2; omega
        have HM := Lib.hid (fun (m : Nat) (z : Int) (W : World) (hz : z = (m : Int)) => zmonth_any y m y z rfl hz (by omega) (by omega) W)
        clear hb hb0 hbel
        go_wp2_with fail
        go_at_call 92
        refine (HZ.out _ _ rfl).mono ?_
        rintro r w1 ⟨rfl, rfl⟩
        go_wp2_with fail
        go_at_call 92
        refine (HZ0.out _).mono ?_
        rintro r w1 ⟨rfl, rfl⟩
        go_wp2_with fail
        have hb1 := Hb.out.set1 1
        have hb01 := Hb0.out.other (q := w.heap.size + 1) (i := 1) (by omega) (.int .i64 1)
        have hbel1 := Hbel.out.setCell (p := ⟨w.heap.size + 1, 1, none⟩) (by show w.heap.size ≤ w.heap.size + 1; omega) (.int .i64 1)
        have Hs1 := Lib.hid (And.intro hb1 (And.intro hb01 hbel1))
        clear hb1 hb01 hbel1 z0 z1 z2 z3 z4 z5 z6 f0 f1
        go_loopw [8] (fun v8 w8 => MnRel y MO D (lt / 3600) (lt / 60 % 60) (lt % 60) (r0 + 1000000000) w v8 w8) (fun v8 _ => (intOf v8).toNat)
        case atStart => exact ⟨1, rd - zd y, 12, rfl, Hs1.out.1, Hs1.out.2.1, by omega, by omega, zy2, HB.out.2.2.1, Hs1.out.2.2⟩
        case round =>
          obtain ⟨m, d, k, rfl, hb, hb0, hm1, hmk, hd4, hmlp, hbel⟩ := hrel
          obtain ⟨z0, z1, z2, z3, z4, z5, z6⟩ := hb.cells
          obtain ⟨x0, x1, x2, x3, x4, x5, x6⟩ := hb0.cells
          have f0 := hb.frozen 0
          have f1 := hb.frozen 1
          have f2 := hb.frozen 2
          have g0 := hb0.frozen 0
          have g1 := hb0.frozen 1
          have g2 := hb0.frozen 2
          have g3 := hb0.frozen 3
          have g4 := hb0.frozen 4
          have g5 := hb0.frozen 5
          have g6 := hb0.frozen 6
          have ml := mlen_ge (lp y) m
          obtain ⟨j, rfl⟩ : ∃ j, k = j + 1 := by
            cases k with
            | zero =>
              have e1 := congrArg Prod.fst hmlp
              have e2 : (mlp (lp y) 0 m d).1 = m := rfl
              have := HB.out.2.2.2.2.2.1
              simp only at e1
              omega
            | succ j => exact ⟨j, rfl⟩
          have Hb := Lib.hid hb
          have Hb0 := Lib.hid hb0
          have Hbel := Lib.hid hbel
          have d4 : (d : Int) ≤ 400 := by omega
          have m4 : (m : Int) ≤ 13 := by omega
          by_cases hc2 : mlen (lp y) m ≤ d
          · have hstep : mlp (lp y) j (m + 1) (d - mlen (lp y) m) = (MO, D) := by
              rw [← hmlp]
              show _ = (if mlen (lp y) m ≤ d then mlp (lp y) j (m + 1) (d - mlen (lp y) m) else (m, d + 1))
              rw [if_pos hc2]
            have hc3 : ((mlen (lp y) m : Nat) : Int) ≤ (d : Int) := by omega
            have ml1 : ((mlen (lp y) m : Nat) : Int) ≤ 31 := by omega
            clear hb hb0 hbel x0 x1 x2 x3 x4 x5 x6 g0 g1 g2 g3 g4 g5 g6
            go_wp2_with fail
            go_at_call 93
            refine (HM.out m _ _ rfl).mono ?_
            rintro r w1 ⟨rfl, rfl⟩
            go_wp2_with fail
            go_at_call 93
            refine (HM.out m _ _ rfl).mono ?_
            rintro r w1 ⟨rfl, rfl⟩
            go_wp2
            have hn := Hb.out.set1 ((m + 1 : Nat) : Int)
            rw [show (m : Int) + 1 = ((m + 1 : Nat) : Int) by omega]
            refine ⟨⟨m + 1, d - mlen (lp y) m, j, ?_, hn, Hb0.out.other (by omega) _, by omega, by omega, by omega, hstep, Hbel.out.setCell (p := ⟨w.heap.size + 1, 1, none⟩) (by show w.heap.size ≤ w.heap.size + 1; omega) _⟩, ?_⟩
            · congr 1
              omega
            · simp only [intOf]
              omega
          · have hexit : (m, d + 1) = (MO, D) := by
              rw [← hmlp]
              show _ = (if mlen (lp y) m ≤ d then mlp (lp y) j (m + 1) (d - mlen (lp y) m) else (m, d + 1))
              rw [if_neg hc2]
            obtain ⟨rfl, rfl⟩ := Prod.mk.inj hexit
            have hc3 : (d : Int) < ((mlen (lp y) m : Nat) : Int) := by omega
            have ml1 : ((mlen (lp y) m : Nat) : Int) ≤ 31 := by omega
            clear hb hb0 hbel
            go_wp2_with fail
            go_at_call 93
            refine (HM.out m _ _ rfl).mono ?_
            rintro r w1 ⟨rfl, rfl⟩
            go_wp2
            have hput := (Hb0.out.other (q := w.heap.size + 1) (i := 2) (by omega) (.int .i64 ((d : Int) + 1))).put (y : Int) (m : Int) ((d : Int) + 1) (lt / 3600) (lt / 60 % 60) (lt % 60) (r0 + 1000000000)
            obtain ⟨r0', r1, r2, r3, r4, r5, r6⟩ := hput.cells
            refine bodyPost_ret (v := .agg #[.int .i64 (y : Int), .int .i64 (m : Int), .int .i64 ((d : Int) + 1), .int .i64 (lt / 3600), .int .i64 (lt / 60 % 60), .int .i64 (lt % 60), .int .i64 (r0 + 1000000000)]) (by simp [results, Tryz.results52, go_sem, r0', r1, r2, r3, r4, r5, r6]) rfl ⟨?_, ?_⟩
            · have e1 : lt / 3600 = ((t % 86400 / 3600 : Nat) : Int) := by have := Hlt.out; omega
              have e2 : lt / 60 % 60 = ((t % 86400 % 3600 / 60 : Nat) : Int) := by have := Hlt.out; omega
              have e3 : lt % 60 = ((t % 86400 % 60 : Nat) : Int) := by have := Hlt.out; omega
              have e4 : (r0 + 1000000000) = ((na : Nat) : Int) := Hna.out
              have e5 : (d : Int) + 1 = ((d + 1 : Nat) : Int) := by omega
              rw [e1, e2, e3, e4, e5]
              rfl
            · exact (((((((Hbel.out.setCell (p := ⟨w.heap.size + 1, 2, none⟩) (Nat.le_succ _) _).setCell (p := ⟨w.heap.size, 0, none⟩) (Nat.le_refl _) _).setCell (p := ⟨w.heap.size, 1, none⟩) (Nat.le_refl _) _).setCell (p := ⟨w.heap.size, 2, none⟩) (Nat.le_refl _) _).setCell (p := ⟨w.heap.size, 3, none⟩) (Nat.le_refl _) _).setCell (p := ⟨w.heap.size, 4, none⟩) (Nat.le_refl _) _).setCell (p := ⟨w.heap.size, 5, none⟩) (Nat.le_refl _) _).setCell (p := ⟨w.heap.size, 6, none⟩) (Nat.le_refl _) _
end Go.Proofs.YtchmhdmapknmfaaGreatDoor

/-
  The reference's numbers: with noughts or blanks ahead, how far a zone is ahead.
-/
namespace Go.Proofs.YtchmhdmapknmfaaGreatDoor
open Go.RowKit Ly

theorem dec_dl (n : Nat) (h : 0 < n) : Lib.decDigits n = dl n [] := by
  induction n using Nat.strongRecOn with
  | _ n ih =>
    unfold Lib.decDigits
    rw [dl_step h, dl_out]
    by_cases h10 : n < 10
    · rw [dif_pos h10, show n / 10 = 0 by omega, dl_zero]
      unfold dg
      rw [Nat.mod_eq_of_lt h10]
      rfl
    · rw [dif_neg h10, ih (n / 10) (by omega) (by omega)]
      rfl
theorem itoa_dn (n : Nat) : Lib.itoa (n : Int) = dn n [] := by
  unfold Lib.itoa
  rw [if_neg (by omega), Int.toNat_natCast]
  unfold dn
  by_cases h : n = 0
  · subst h
    unfold Lib.decDigits
    rw [dif_pos (by omega), if_pos rfl]
    rfl
  · rw [if_neg h]
    exact dec_dl n (by omega)

theorem below_grow (w : World) (k : Nat) (os : Array Obj) : Below w.heap.size w (Sort.grow (w.drewN k) os) :=
  ⟨rfl, rfl, rfl, by show w.heap.size ≤ (w.heap ++ os).size; simp, fun j hj => by show (w.heap ++ os)[j]? = _; rw [Array.getElem?_append_left hj]⟩

theorem itoa_any (n : Nat) (x : Int) (hx : x = (n : Int)) (hn : n < 10000000000) (w : World) (hp : Pow w) :
    Calls Tryz.prog 94 #[.int .i64 x] w fun r w' => ∃ s : ByteArray, r = .returned (.string s) ∧ bts s = dn n [] ∧ s.size ≤ 10 ∧ Below w.heap.size w w' := by
  subst hx
  refine (Tryz.strconv_Itoa (n : Int) (by omega) (by omega) w hp).mono ?_
  rintro r w' ⟨rfl, k, os, rfl⟩
  have e : bts ⟨(Lib.itoa (n : Int)).toArray⟩ = dn n [] := by rw [← itoa_dn n]
  refine ⟨_, rfl, e, ?_, below_grow w k os⟩
  rw [← bts_length, e]
  exact Ly.dn_len hn

def strSz : Value → Nat
  | .string t => t.size
  | _ => 0

/-- What a loop that lays letters ahead keeps. -/
def PdRel (c : UInt8) (L : List UInt8) (k : Nat) (w0 : World) (v : Value) (wr : World) : Prop :=
  ∃ (s : ByteArray) (j : Nat), v = .string s ∧ bts s = List.replicate j c ++ L ∧ j ≤ k - L.length ∧ s.size = j + L.length ∧ wr = w0

theorem bts_app (a b : ByteArray) : bts (a ++ b) = bts a ++ bts b := by simp [bts]

set_option maxRecDepth 100000 in
set_option maxHeartbeats 2000000 in
theorem padded_any (n k : Nat) (x z : Int) (hx : x = (n : Int)) (hz : z = (k : Int)) (hn : n < 10000000000) (hk : k ≤ 20) (w : World) (hp : Pow w) :
    Calls Tryz.prog 95 #[.int .i64 x, .int .i64 z] w fun r w' => ∃ s : ByteArray, r = .returned (.string s) ∧ bts s = Ly.pad k n ∧ s.size ≤ 30 ∧ Below w.heap.size w w' := by
  have HI := Lib.hid (itoa_any n x hx hn w hp)
  have Hk := Lib.hid (And.intro hz hk)
  have k0 : 0 ≤ z := by omega
  have k1 : z ≤ 20 := by omega
  clear hx hn hz hk
  go_enter Tryz.func95, Tryz.ntmps95
  go_wp2_with fail
  go_at_call 94
  refine HI.out.mono ?_
  rintro r w1 ⟨s0, rfl, hb0, hs0, hw1⟩
  have Hw := Lib.hid hw1
  have hl : (dn n []).length = s0.size := by rw [← hb0, bts_length]
  have Hl := Lib.hid (And.intro hl (And.intro hb0 hs0))
  clear hw1 hl hb0 hs0
  go_wp2_with fail
  go_loopw [5] (fun v wr => PdRel 48 (dn n []) k w1 v wr) (fun v _ => k - strSz v)
  case atStart => exact ⟨s0, 0, rfl, by rw [Hl.out.2.1]; rfl, Nat.zero_le _, by rw [Hl.out.1]; omega, rfl⟩
  case round =>
    obtain ⟨s, j, rfl, hb, hj, hs, rfl⟩ := hrel
    have hz := Hk.out.1
    have hk20 := Hk.out.2
    have hl0 := Hl.out.1
    have hl1 := Hl.out.2.2
    have s1 : s.size ≤ 30 := by omega
    have s1' : (s.size : Int) ≤ 30 := by omega
    have Hb := Lib.hid hb
    by_cases hc : s.size < k
    · have hc' : (s.size : Int) < z := by omega
      have k2 : ¬ (9223372036854775807 < 1 + s.size) := by omega
      have Hj := Lib.hid (And.intro hj (And.intro hs hc))
      clear hb hj hs hz hl0 hl1 hk20 hc
      go_wp2
      have hs' : (⟨#[48]⟩ ++ s : ByteArray).size = 1 + s.size := by rw [ByteArray.size_append]; rfl
      refine ⟨⟨⟨#[48]⟩ ++ s, j + 1, rfl, ?_, by have := Hj.out; omega, by have := Hj.out; omega, rfl⟩, ?_⟩
      · rw [bts_app, Hb.out, List.replicate_succ]
        rfl
      · show k - (⟨#[48]⟩ ++ s : ByteArray).size < k - s.size
        have := Hj.out
        omega
    · have hc' : z ≤ (s.size : Int) := by omega
      have hj2 : j = k - (dn n []).length := by omega
      have Hj := Lib.hid hj2
      clear hb hj hs hz hl0 hl1 hk20 hc hj2
      go_wp2
      go_ret
      exact ⟨s, rfl, by rw [Hb.out, Hj.out]; rfl, s1, Hw.out⟩

set_option maxRecDepth 100000 in
set_option maxHeartbeats 2000000 in
theorem blanked_any (n k : Nat) (x z : Int) (hx : x = (n : Int)) (hz : z = (k : Int)) (hn : n < 10000000000) (hk : k ≤ 20) (w : World) (hp : Pow w) :
    Calls Tryz.prog 96 #[.int .i64 x, .int .i64 z] w fun r w' => ∃ s : ByteArray, r = .returned (.string s) ∧ bts s = Ly.blank k n ∧ s.size ≤ 30 ∧ Below w.heap.size w w' := by
  have HI := Lib.hid (itoa_any n x hx hn w hp)
  have Hk := Lib.hid (And.intro hz hk)
  have k0 : 0 ≤ z := by omega
  have k1 : z ≤ 20 := by omega
  clear hx hn hz hk
  go_enter Tryz.func96, Tryz.ntmps96
  go_wp2_with fail
  go_at_call 94
  refine HI.out.mono ?_
  rintro r w1 ⟨s0, rfl, hb0, hs0, hw1⟩
  have Hw := Lib.hid hw1
  have hl : (dn n []).length = s0.size := by rw [← hb0, bts_length]
  have Hl := Lib.hid (And.intro hl (And.intro hb0 hs0))
  clear hw1 hl hb0 hs0
  go_wp2_with fail
  go_loopw [5] (fun v wr => PdRel 32 (dn n []) k w1 v wr) (fun v _ => k - strSz v)
  case atStart => exact ⟨s0, 0, rfl, by rw [Hl.out.2.1]; rfl, Nat.zero_le _, by rw [Hl.out.1]; omega, rfl⟩
  case round =>
    obtain ⟨s, j, rfl, hb, hj, hs, rfl⟩ := hrel
    have hz := Hk.out.1
    have hk20 := Hk.out.2
    have hl0 := Hl.out.1
    have hl1 := Hl.out.2.2
    have s1 : s.size ≤ 30 := by omega
    have s1' : (s.size : Int) ≤ 30 := by omega
    have Hb := Lib.hid hb
    by_cases hc : s.size < k
    · have hc' : (s.size : Int) < z := by omega
      have k2 : ¬ (9223372036854775807 < 1 + s.size) := by omega
      have Hj := Lib.hid (And.intro hj (And.intro hs hc))
      clear hb hj hs hz hl0 hl1 hk20 hc
      go_wp2
      have hs' : (⟨#[32]⟩ ++ s : ByteArray).size = 1 + s.size := by rw [ByteArray.size_append]; rfl
      refine ⟨⟨⟨#[32]⟩ ++ s, j + 1, rfl, ?_, by have := Hj.out; omega, by have := Hj.out; omega, rfl⟩, ?_⟩
      · rw [bts_app, Hb.out, List.replicate_succ]
        rfl
      · show k - (⟨#[32]⟩ ++ s : ByteArray).size < k - s.size
        have := Hj.out
        omega
    · have hc' : z ≤ (s.size : Int) := by omega
      have hj2 : j = k - (dn n []).length := by omega
      have Hj := Lib.hid hj2
      clear hb hj hs hz hl0 hl1 hk20 hc hj2
      go_wp2
      go_ret
      exact ⟨s, rfl, by rw [Hb.out, Hj.out]; rfl, s1, Hw.out⟩

end Go.Proofs.YtchmhdmapknmfaaGreatDoor

/-
  The reference's zone: how far it is ahead, in the form of a part of a layout.
-/
namespace Go.Proofs.YtchmhdmapknmfaaGreatDoor
open Go.RowKit Ly

theorem fin_zn {s : ByteArray} {r : Ending} {off : Int} {a b c : Bool} {w w' : World} (hr : r = .returned (.string s)) (h : bts s = zn off a b c) (ho : off.natAbs < 10000000000) (hb : Below w.heap.size w w') :
    ∃ s : ByteArray, r = .returned (.string s) ∧ bts s = zn off a b c ∧ s.size ≤ 100 ∧ Below w.heap.size w w' :=
  ⟨s, hr, h, by rw [← bts_length, h]; exact Nat.le_trans (zn_len _ _ _ _ ho) (by omega), hb⟩

set_option maxRecDepth 100000 in
set_option maxHeartbeats 4000000 in
theorem offset_p000 (off : Int) (x : ByteArray) (h4 : -86400 < off) (h5 : off < 86400) (h0 : 0 ≤ off) (hx : x.size ≤ 3) (w : World) (hp : Pow w) (hH : 11 ≤ w.heap.size) :
    Calls Tryz.prog 97 #[.int .i64 off, .string x] w fun r w' => ∃ s : ByteArray, r = .returned (.string s) ∧ bts s = zn off false false false ∧ s.size ≤ 100 ∧ Below w.heap.size w w' := by
  obtain ⟨A, hA⟩ : ∃ A : Nat, A = off.natAbs := ⟨_, rfl⟩
  obtain ⟨a, ha⟩ : ∃ a : Int, a = off := ⟨_, rfl⟩
  have haA : a = (A : Int) := by omega
  subst ha
  have a0 : 0 ≤ a := by omega
  have a1 : a < 86400 := by omega
  have HP := Lib.hid (fun (n : Nat) (y : Int) (W : World) (hy : y = (n : Int)) (hn : n < 100000) (hb : Below w.heap.size w W) => padded_any n 2 y 2 hy rfl (by omega) (by omega) W (hp.belowB hb hH))
  have Hz := Lib.hid (show zn a false false false = 43 :: (pad 2 (A / 3600)) by
    unfold zn
    rw [← hA]
    rw [if_neg (by omega)]
    simp)
  have HA := Lib.hid haA
  have hx' : (x.size : Int) ≤ 3 := by omega
  clear hA haA hp hH h4 h5
  go_enter Tryz.func97, Tryz.ntmps97
  go_wp2_with fail
  go_at_call 95
  refine (HP.out (A / 3600) _ _ (by have := HA.out; omega) (by have := HA.out; omega) (Below.refl _ _)).mono ?_
  rintro r w1 ⟨s1, rfl, b1, z1, hw1⟩
  have B1 := Lib.hid (And.intro b1 hw1)
  have k1 : (s1.size : Int) ≤ 30 := by omega
  have j1 : ¬ (9223372036854775807 < 1 + s1.size) := by omega
  clear b1 hw1
  go_wp2
  go_ret
  refine fin_zn rfl ?_ (by omega) B1.out.2
  · rw [Hz.out]
    simp only [bts_app, B1.out.1]
    simp [bts]

set_option maxRecDepth 100000 in
set_option maxHeartbeats 4000000 in
theorem offset_p100 (off : Int) (x : ByteArray) (h4 : -86400 < off) (h5 : off < 86400) (h0 : 0 ≤ off) (hx : 3 < x.size) (h3 : ((x[3].toNat : Int) == 58) = false) (h6 : x.size ≤ 6) (w : World) (hp : Pow w) (hH : 11 ≤ w.heap.size) :
    Calls Tryz.prog 97 #[.int .i64 off, .string x] w fun r w' => ∃ s : ByteArray, r = .returned (.string s) ∧ bts s = zn off false true false ∧ s.size ≤ 100 ∧ Below w.heap.size w w' := by
  obtain ⟨A, hA⟩ : ∃ A : Nat, A = off.natAbs := ⟨_, rfl⟩
  obtain ⟨a, ha⟩ : ∃ a : Int, a = off := ⟨_, rfl⟩
  have haA : a = (A : Int) := by omega
  subst ha
  have a0 : 0 ≤ a := by omega
  have a1 : a < 86400 := by omega
  have HP := Lib.hid (fun (n : Nat) (y : Int) (W : World) (hy : y = (n : Int)) (hn : n < 100000) (hb : Below w.heap.size w W) => padded_any n 2 y 2 hy rfl (by omega) (by omega) W (hp.belowB hb hH))
  have Hz := Lib.hid (show zn a false true false = 43 :: (pad 2 (A / 3600) ++ (pad 2 (A / 60 % 60))) by
    unfold zn
    rw [← hA]
    rw [if_neg (by omega)]
    simp)
  have HA := Lib.hid haA
  have hx' : (3 : Int) < (x.size : Int) := by omega
  have h6' : (x.size : Int) ≤ 6 := by omega
  clear hA haA hp hH h4 h5 h6
  go_enter Tryz.func97, Tryz.ntmps97
  go_wp2_with fail
  go_at_call 95
  refine (HP.out (A / 3600) _ _ (by have := HA.out; omega) (by have := HA.out; omega) (Below.refl _ _)).mono ?_
  rintro r w1 ⟨s1, rfl, b1, z1, hw1⟩
  have B1 := Lib.hid (And.intro b1 hw1)
  have k1 : (s1.size : Int) ≤ 30 := by omega
  have j1 : ¬ (9223372036854775807 < 1 + s1.size) := by omega
  clear b1 hw1
  go_wp2_with fail
  go_at_call 95
  refine (HP.out (A / 60 % 60) _ _ (by have := HA.out; omega) (by have := HA.out; omega) B1.out.2).mono ?_
  rintro r w2 ⟨s2, rfl, b2, z2, hw2⟩
  have B2 := Lib.hid (And.intro b2 (B1.out.2.trans (hw2.mono B1.out.2.size)))
  have k2 : (s2.size : Int) ≤ 30 := by omega
  clear b2 hw2
  go_wp2
  go_ret
  refine fin_zn rfl ?_ (by omega) B2.out.2
  · rw [Hz.out]
    simp only [bts_app, B1.out.1, B2.out.1]
    simp [bts]

set_option maxRecDepth 100000 in
set_option maxHeartbeats 4000000 in
theorem offset_p110 (off : Int) (x : ByteArray) (h4 : -86400 < off) (h5 : off < 86400) (h0 : 0 ≤ off) (hx : 3 < x.size) (h3 : ((x[3].toNat : Int) == 58) = true) (h6 : x.size ≤ 6) (w : World) (hp : Pow w) (hH : 11 ≤ w.heap.size) :
    Calls Tryz.prog 97 #[.int .i64 off, .string x] w fun r w' => ∃ s : ByteArray, r = .returned (.string s) ∧ bts s = zn off true true false ∧ s.size ≤ 100 ∧ Below w.heap.size w w' := by
  obtain ⟨A, hA⟩ : ∃ A : Nat, A = off.natAbs := ⟨_, rfl⟩
  obtain ⟨a, ha⟩ : ∃ a : Int, a = off := ⟨_, rfl⟩
  have haA : a = (A : Int) := by omega
  subst ha
  have a0 : 0 ≤ a := by omega
  have a1 : a < 86400 := by omega
  have HP := Lib.hid (fun (n : Nat) (y : Int) (W : World) (hy : y = (n : Int)) (hn : n < 100000) (hb : Below w.heap.size w W) => padded_any n 2 y 2 hy rfl (by omega) (by omega) W (hp.belowB hb hH))
  have Hz := Lib.hid (show zn a true true false = 43 :: (pad 2 (A / 3600) ++ ([58] ++ pad 2 (A / 60 % 60))) by
    unfold zn
    rw [← hA]
    rw [if_neg (by omega)]
    simp)
  have HA := Lib.hid haA
  have hx' : (3 : Int) < (x.size : Int) := by omega
  have h6' : (x.size : Int) ≤ 6 := by omega
  clear hA haA hp hH h4 h5 h6
  go_enter Tryz.func97, Tryz.ntmps97
  go_wp2_with fail
  go_at_call 95
  refine (HP.out (A / 3600) _ _ (by have := HA.out; omega) (by have := HA.out; omega) (Below.refl _ _)).mono ?_
  rintro r w1 ⟨s1, rfl, b1, z1, hw1⟩
  have B1 := Lib.hid (And.intro b1 hw1)
  have k1 : (s1.size : Int) ≤ 30 := by omega
  have j1 : ¬ (9223372036854775807 < 1 + s1.size) := by omega
  clear b1 hw1
  go_wp2_with fail
  go_at_call 95
  refine (HP.out (A / 60 % 60) _ _ (by have := HA.out; omega) (by have := HA.out; omega) B1.out.2).mono ?_
  rintro r w2 ⟨s2, rfl, b2, z2, hw2⟩
  have B2 := Lib.hid (And.intro b2 (B1.out.2.trans (hw2.mono B1.out.2.size)))
  have k2 : (s2.size : Int) ≤ 30 := by omega
  clear b2 hw2
  go_wp2
  go_ret
  refine fin_zn rfl ?_ (by omega) B2.out.2
  · rw [Hz.out]
    simp only [bts_app, B1.out.1, B2.out.1]
    simp [bts]

set_option maxRecDepth 100000 in
set_option maxHeartbeats 4000000 in
theorem offset_p101 (off : Int) (x : ByteArray) (h4 : -86400 < off) (h5 : off < 86400) (h0 : 0 ≤ off) (hx : 3 < x.size) (h3 : ((x[3].toNat : Int) == 58) = false) (h6 : 6 < x.size) (w : World) (hp : Pow w) (hH : 11 ≤ w.heap.size) :
    Calls Tryz.prog 97 #[.int .i64 off, .string x] w fun r w' => ∃ s : ByteArray, r = .returned (.string s) ∧ bts s = zn off false true true ∧ s.size ≤ 100 ∧ Below w.heap.size w w' := by
  obtain ⟨A, hA⟩ : ∃ A : Nat, A = off.natAbs := ⟨_, rfl⟩
  obtain ⟨a, ha⟩ : ∃ a : Int, a = off := ⟨_, rfl⟩
  have haA : a = (A : Int) := by omega
  subst ha
  have a0 : 0 ≤ a := by omega
  have a1 : a < 86400 := by omega
  have HP := Lib.hid (fun (n : Nat) (y : Int) (W : World) (hy : y = (n : Int)) (hn : n < 100000) (hb : Below w.heap.size w W) => padded_any n 2 y 2 hy rfl (by omega) (by omega) W (hp.belowB hb hH))
  have Hz := Lib.hid (show zn a false true true = 43 :: (pad 2 (A / 3600) ++ (pad 2 (A / 60 % 60) ++ pad 2 (A % 60))) by
    unfold zn
    rw [← hA]
    rw [if_neg (by omega)]
    simp)
  have HA := Lib.hid haA
  have hx' : (3 : Int) < (x.size : Int) := by omega
  have h6' : (6 : Int) < (x.size : Int) := by omega
  clear hA haA hp hH h4 h5 h6
  go_enter Tryz.func97, Tryz.ntmps97
  go_wp2_with fail
  go_at_call 95
  refine (HP.out (A / 3600) _ _ (by have := HA.out; omega) (by have := HA.out; omega) (Below.refl _ _)).mono ?_
  rintro r w1 ⟨s1, rfl, b1, z1, hw1⟩
  have B1 := Lib.hid (And.intro b1 hw1)
  have k1 : (s1.size : Int) ≤ 30 := by omega
  have j1 : ¬ (9223372036854775807 < 1 + s1.size) := by omega
  clear b1 hw1
  go_wp2_with fail
  go_at_call 95
  refine (HP.out (A / 60 % 60) _ _ (by have := HA.out; omega) (by have := HA.out; omega) B1.out.2).mono ?_
  rintro r w2 ⟨s2, rfl, b2, z2, hw2⟩
  have B2 := Lib.hid (And.intro b2 (B1.out.2.trans (hw2.mono B1.out.2.size)))
  have k2 : (s2.size : Int) ≤ 30 := by omega
  clear b2 hw2
  go_wp2_with fail
  go_at_call 95
  refine (HP.out (A % 60) _ _ (by have := HA.out; omega) (by have := HA.out; omega) B2.out.2).mono ?_
  rintro r w3 ⟨s3, rfl, b3, z3, hw3⟩
  have B3 := Lib.hid (And.intro b3 (B2.out.2.trans (hw3.mono B2.out.2.size)))
  have k3 : (s3.size : Int) ≤ 30 := by omega
  clear b3 hw3
  go_wp2
  go_ret
  refine fin_zn rfl ?_ (by omega) B3.out.2
  · rw [Hz.out]
    simp only [bts_app, B1.out.1, B2.out.1, B3.out.1]
    simp [bts]

set_option maxRecDepth 100000 in
set_option maxHeartbeats 4000000 in
theorem offset_p111 (off : Int) (x : ByteArray) (h4 : -86400 < off) (h5 : off < 86400) (h0 : 0 ≤ off) (hx : 3 < x.size) (h3 : ((x[3].toNat : Int) == 58) = true) (h6 : 6 < x.size) (w : World) (hp : Pow w) (hH : 11 ≤ w.heap.size) :
    Calls Tryz.prog 97 #[.int .i64 off, .string x] w fun r w' => ∃ s : ByteArray, r = .returned (.string s) ∧ bts s = zn off true true true ∧ s.size ≤ 100 ∧ Below w.heap.size w w' := by
  obtain ⟨A, hA⟩ : ∃ A : Nat, A = off.natAbs := ⟨_, rfl⟩
  obtain ⟨a, ha⟩ : ∃ a : Int, a = off := ⟨_, rfl⟩
  have haA : a = (A : Int) := by omega
  subst ha
  have a0 : 0 ≤ a := by omega
  have a1 : a < 86400 := by omega
  have HP := Lib.hid (fun (n : Nat) (y : Int) (W : World) (hy : y = (n : Int)) (hn : n < 100000) (hb : Below w.heap.size w W) => padded_any n 2 y 2 hy rfl (by omega) (by omega) W (hp.belowB hb hH))
  have Hz := Lib.hid (show zn a true true true = 43 :: (pad 2 (A / 3600) ++ ([58] ++ pad 2 (A / 60 % 60) ++ ([58] ++ pad 2 (A % 60)))) by
    unfold zn
    rw [← hA]
    rw [if_neg (by omega)]
    simp)
  have HA := Lib.hid haA
  have hx' : (3 : Int) < (x.size : Int) := by omega
  have h6' : (6 : Int) < (x.size : Int) := by omega
  clear hA haA hp hH h4 h5 h6
  go_enter Tryz.func97, Tryz.ntmps97
  go_wp2_with fail
  go_at_call 95
  refine (HP.out (A / 3600) _ _ (by have := HA.out; omega) (by have := HA.out; omega) (Below.refl _ _)).mono ?_
  rintro r w1 ⟨s1, rfl, b1, z1, hw1⟩
  have B1 := Lib.hid (And.intro b1 hw1)
  have k1 : (s1.size : Int) ≤ 30 := by omega
  have j1 : ¬ (9223372036854775807 < 1 + s1.size) := by omega
  clear b1 hw1
  go_wp2_with fail
  go_at_call 95
  refine (HP.out (A / 60 % 60) _ _ (by have := HA.out; omega) (by have := HA.out; omega) B1.out.2).mono ?_
  rintro r w2 ⟨s2, rfl, b2, z2, hw2⟩
  have B2 := Lib.hid (And.intro b2 (B1.out.2.trans (hw2.mono B1.out.2.size)))
  have k2 : (s2.size : Int) ≤ 30 := by omega
  clear b2 hw2
  go_wp2_with fail
  go_at_call 95
  refine (HP.out (A % 60) _ _ (by have := HA.out; omega) (by have := HA.out; omega) B2.out.2).mono ?_
  rintro r w3 ⟨s3, rfl, b3, z3, hw3⟩
  have B3 := Lib.hid (And.intro b3 (B2.out.2.trans (hw3.mono B2.out.2.size)))
  have k3 : (s3.size : Int) ≤ 30 := by omega
  clear b3 hw3
  go_wp2
  go_ret
  refine fin_zn rfl ?_ (by omega) B3.out.2
  · rw [Hz.out]
    simp only [bts_app, B1.out.1, B2.out.1, B3.out.1]
    simp [bts]

set_option maxRecDepth 100000 in
set_option maxHeartbeats 4000000 in
theorem offset_n000 (off : Int) (x : ByteArray) (h4 : -86400 < off) (h5 : off < 86400) (h0 : off < 0) (hx : x.size ≤ 3) (w : World) (hp : Pow w) (hH : 11 ≤ w.heap.size) :
    Calls Tryz.prog 97 #[.int .i64 off, .string x] w fun r w' => ∃ s : ByteArray, r = .returned (.string s) ∧ bts s = zn off false false false ∧ s.size ≤ 100 ∧ Below w.heap.size w w' := by
  obtain ⟨A, hA⟩ : ∃ A : Nat, A = off.natAbs := ⟨_, rfl⟩
  obtain ⟨a, ha⟩ : ∃ a : Int, a = -off := ⟨_, rfl⟩
  have haA : a = (A : Int) := by omega
  have ho : off = -a := by omega
  subst ho
  have a0 : 0 ≤ a := by omega
  have a1 : a < 86400 := by omega
  have HP := Lib.hid (fun (n : Nat) (y : Int) (W : World) (hy : y = (n : Int)) (hn : n < 100000) (hb : Below w.heap.size w W) => padded_any n 2 y 2 hy rfl (by omega) (by omega) W (hp.belowB hb hH))
  have Hz := Lib.hid (show zn (-a) false false false = 45 :: (pad 2 (A / 3600)) by
    unfold zn
    rw [← hA]
    rw [if_pos (by omega)]
    simp)
  have HA := Lib.hid haA
  have hx' : (x.size : Int) ≤ 3 := by omega
  clear hA haA hp hH h4 h5 ha
  go_enter Tryz.func97, Tryz.ntmps97
  go_wp2_with fail
  go_at_call 95
  refine (HP.out (A / 3600) _ _ (by have := HA.out; omega) (by have := HA.out; omega) (Below.refl _ _)).mono ?_
  rintro r w1 ⟨s1, rfl, b1, z1, hw1⟩
  have B1 := Lib.hid (And.intro b1 hw1)
  have k1 : (s1.size : Int) ≤ 30 := by omega
  have j1 : ¬ (9223372036854775807 < 1 + s1.size) := by omega
  clear b1 hw1
  go_wp2
  go_ret
  refine fin_zn rfl ?_ (by omega) B1.out.2
  · rw [Hz.out]
    simp only [bts_app, B1.out.1]
    simp [bts]

set_option maxRecDepth 100000 in
set_option maxHeartbeats 4000000 in
theorem offset_n100 (off : Int) (x : ByteArray) (h4 : -86400 < off) (h5 : off < 86400) (h0 : off < 0) (hx : 3 < x.size) (h3 : ((x[3].toNat : Int) == 58) = false) (h6 : x.size ≤ 6) (w : World) (hp : Pow w) (hH : 11 ≤ w.heap.size) :
    Calls Tryz.prog 97 #[.int .i64 off, .string x] w fun r w' => ∃ s : ByteArray, r = .returned (.string s) ∧ bts s = zn off false true false ∧ s.size ≤ 100 ∧ Below w.heap.size w w' := by
  obtain ⟨A, hA⟩ : ∃ A : Nat, A = off.natAbs := ⟨_, rfl⟩
  obtain ⟨a, ha⟩ : ∃ a : Int, a = -off := ⟨_, rfl⟩
  have haA : a = (A : Int) := by omega
  have ho : off = -a := by omega
  subst ho
  have a0 : 0 ≤ a := by omega
  have a1 : a < 86400 := by omega
  have HP := Lib.hid (fun (n : Nat) (y : Int) (W : World) (hy : y = (n : Int)) (hn : n < 100000) (hb : Below w.heap.size w W) => padded_any n 2 y 2 hy rfl (by omega) (by omega) W (hp.belowB hb hH))
  have Hz := Lib.hid (show zn (-a) false true false = 45 :: (pad 2 (A / 3600) ++ (pad 2 (A / 60 % 60))) by
    unfold zn
    rw [← hA]
    rw [if_pos (by omega)]
    simp)
  have HA := Lib.hid haA
  have hx' : (3 : Int) < (x.size : Int) := by omega
  have h6' : (x.size : Int) ≤ 6 := by omega
  clear hA haA hp hH h4 h5 ha h6
  go_enter Tryz.func97, Tryz.ntmps97
  go_wp2_with fail
  go_at_call 95
  refine (HP.out (A / 3600) _ _ (by have := HA.out; omega) (by have := HA.out; omega) (Below.refl _ _)).mono ?_
  rintro r w1 ⟨s1, rfl, b1, z1, hw1⟩
  have B1 := Lib.hid (And.intro b1 hw1)
  have k1 : (s1.size : Int) ≤ 30 := by omega
  have j1 : ¬ (9223372036854775807 < 1 + s1.size) := by omega
  clear b1 hw1
  go_wp2_with fail
  go_at_call 95
  refine (HP.out (A / 60 % 60) _ _ (by have := HA.out; omega) (by have := HA.out; omega) B1.out.2).mono ?_
  rintro r w2 ⟨s2, rfl, b2, z2, hw2⟩
  have B2 := Lib.hid (And.intro b2 (B1.out.2.trans (hw2.mono B1.out.2.size)))
  have k2 : (s2.size : Int) ≤ 30 := by omega
  clear b2 hw2
  go_wp2
  go_ret
  refine fin_zn rfl ?_ (by omega) B2.out.2
  · rw [Hz.out]
    simp only [bts_app, B1.out.1, B2.out.1]
    simp [bts]

set_option maxRecDepth 100000 in
set_option maxHeartbeats 4000000 in
theorem offset_n110 (off : Int) (x : ByteArray) (h4 : -86400 < off) (h5 : off < 86400) (h0 : off < 0) (hx : 3 < x.size) (h3 : ((x[3].toNat : Int) == 58) = true) (h6 : x.size ≤ 6) (w : World) (hp : Pow w) (hH : 11 ≤ w.heap.size) :
    Calls Tryz.prog 97 #[.int .i64 off, .string x] w fun r w' => ∃ s : ByteArray, r = .returned (.string s) ∧ bts s = zn off true true false ∧ s.size ≤ 100 ∧ Below w.heap.size w w' := by
  obtain ⟨A, hA⟩ : ∃ A : Nat, A = off.natAbs := ⟨_, rfl⟩
  obtain ⟨a, ha⟩ : ∃ a : Int, a = -off := ⟨_, rfl⟩
  have haA : a = (A : Int) := by omega
  have ho : off = -a := by omega
  subst ho
  have a0 : 0 ≤ a := by omega
  have a1 : a < 86400 := by omega
  have HP := Lib.hid (fun (n : Nat) (y : Int) (W : World) (hy : y = (n : Int)) (hn : n < 100000) (hb : Below w.heap.size w W) => padded_any n 2 y 2 hy rfl (by omega) (by omega) W (hp.belowB hb hH))
  have Hz := Lib.hid (show zn (-a) true true false = 45 :: (pad 2 (A / 3600) ++ ([58] ++ pad 2 (A / 60 % 60))) by
    unfold zn
    rw [← hA]
    rw [if_pos (by omega)]
    simp)
  have HA := Lib.hid haA
  have hx' : (3 : Int) < (x.size : Int) := by omega
  have h6' : (x.size : Int) ≤ 6 := by omega
  clear hA haA hp hH h4 h5 ha h6
  go_enter Tryz.func97, Tryz.ntmps97
  go_wp2_with fail
  go_at_call 95
  refine (HP.out (A / 3600) _ _ (by have := HA.out; omega) (by have := HA.out; omega) (Below.refl _ _)).mono ?_
  rintro r w1 ⟨s1, rfl, b1, z1, hw1⟩
  have B1 := Lib.hid (And.intro b1 hw1)
  have k1 : (s1.size : Int) ≤ 30 := by omega
  have j1 : ¬ (9223372036854775807 < 1 + s1.size) := by omega
  clear b1 hw1
  go_wp2_with fail
  go_at_call 95
  refine (HP.out (A / 60 % 60) _ _ (by have := HA.out; omega) (by have := HA.out; omega) B1.out.2).mono ?_
  rintro r w2 ⟨s2, rfl, b2, z2, hw2⟩
  have B2 := Lib.hid (And.intro b2 (B1.out.2.trans (hw2.mono B1.out.2.size)))
  have k2 : (s2.size : Int) ≤ 30 := by omega
  clear b2 hw2
  go_wp2
  go_ret
  refine fin_zn rfl ?_ (by omega) B2.out.2
  · rw [Hz.out]
    simp only [bts_app, B1.out.1, B2.out.1]
    simp [bts]

set_option maxRecDepth 100000 in
set_option maxHeartbeats 4000000 in
theorem offset_n101 (off : Int) (x : ByteArray) (h4 : -86400 < off) (h5 : off < 86400) (h0 : off < 0) (hx : 3 < x.size) (h3 : ((x[3].toNat : Int) == 58) = false) (h6 : 6 < x.size) (w : World) (hp : Pow w) (hH : 11 ≤ w.heap.size) :
    Calls Tryz.prog 97 #[.int .i64 off, .string x] w fun r w' => ∃ s : ByteArray, r = .returned (.string s) ∧ bts s = zn off false true true ∧ s.size ≤ 100 ∧ Below w.heap.size w w' := by
  obtain ⟨A, hA⟩ : ∃ A : Nat, A = off.natAbs := ⟨_, rfl⟩
  obtain ⟨a, ha⟩ : ∃ a : Int, a = -off := ⟨_, rfl⟩
  have haA : a = (A : Int) := by omega
  have ho : off = -a := by omega
  subst ho
  have a0 : 0 ≤ a := by omega
  have a1 : a < 86400 := by omega
  have HP := Lib.hid (fun (n : Nat) (y : Int) (W : World) (hy : y = (n : Int)) (hn : n < 100000) (hb : Below w.heap.size w W) => padded_any n 2 y 2 hy rfl (by omega) (by omega) W (hp.belowB hb hH))
  have Hz := Lib.hid (show zn (-a) false true true = 45 :: (pad 2 (A / 3600) ++ (pad 2 (A / 60 % 60) ++ pad 2 (A % 60))) by
    unfold zn
    rw [← hA]
    rw [if_pos (by omega)]
    simp)
  have HA := Lib.hid haA
  have hx' : (3 : Int) < (x.size : Int) := by omega
  have h6' : (6 : Int) < (x.size : Int) := by omega
  clear hA haA hp hH h4 h5 ha h6
  go_enter Tryz.func97, Tryz.ntmps97
  go_wp2_with fail
  go_at_call 95
  refine (HP.out (A / 3600) _ _ (by have := HA.out; omega) (by have := HA.out; omega) (Below.refl _ _)).mono ?_
  rintro r w1 ⟨s1, rfl, b1, z1, hw1⟩
  have B1 := Lib.hid (And.intro b1 hw1)
  have k1 : (s1.size : Int) ≤ 30 := by omega
  have j1 : ¬ (9223372036854775807 < 1 + s1.size) := by omega
  clear b1 hw1
  go_wp2_with fail
  go_at_call 95
  refine (HP.out (A / 60 % 60) _ _ (by have := HA.out; omega) (by have := HA.out; omega) B1.out.2).mono ?_
  rintro r w2 ⟨s2, rfl, b2, z2, hw2⟩
  have B2 := Lib.hid (And.intro b2 (B1.out.2.trans (hw2.mono B1.out.2.size)))
  have k2 : (s2.size : Int) ≤ 30 := by omega
  clear b2 hw2
  go_wp2_with fail
  go_at_call 95
  refine (HP.out (A % 60) _ _ (by have := HA.out; omega) (by have := HA.out; omega) B2.out.2).mono ?_
  rintro r w3 ⟨s3, rfl, b3, z3, hw3⟩
  have B3 := Lib.hid (And.intro b3 (B2.out.2.trans (hw3.mono B2.out.2.size)))
  have k3 : (s3.size : Int) ≤ 30 := by omega
  clear b3 hw3
  go_wp2
  go_ret
  refine fin_zn rfl ?_ (by omega) B3.out.2
  · rw [Hz.out]
    simp only [bts_app, B1.out.1, B2.out.1, B3.out.1]
    simp [bts]

set_option maxRecDepth 100000 in
set_option maxHeartbeats 4000000 in
theorem offset_n111 (off : Int) (x : ByteArray) (h4 : -86400 < off) (h5 : off < 86400) (h0 : off < 0) (hx : 3 < x.size) (h3 : ((x[3].toNat : Int) == 58) = true) (h6 : 6 < x.size) (w : World) (hp : Pow w) (hH : 11 ≤ w.heap.size) :
    Calls Tryz.prog 97 #[.int .i64 off, .string x] w fun r w' => ∃ s : ByteArray, r = .returned (.string s) ∧ bts s = zn off true true true ∧ s.size ≤ 100 ∧ Below w.heap.size w w' := by
  obtain ⟨A, hA⟩ : ∃ A : Nat, A = off.natAbs := ⟨_, rfl⟩
  obtain ⟨a, ha⟩ : ∃ a : Int, a = -off := ⟨_, rfl⟩
  have haA : a = (A : Int) := by omega
  have ho : off = -a := by omega
  subst ho
  have a0 : 0 ≤ a := by omega
  have a1 : a < 86400 := by omega
  have HP := Lib.hid (fun (n : Nat) (y : Int) (W : World) (hy : y = (n : Int)) (hn : n < 100000) (hb : Below w.heap.size w W) => padded_any n 2 y 2 hy rfl (by omega) (by omega) W (hp.belowB hb hH))
  have Hz := Lib.hid (show zn (-a) true true true = 45 :: (pad 2 (A / 3600) ++ ([58] ++ pad 2 (A / 60 % 60) ++ ([58] ++ pad 2 (A % 60)))) by
    unfold zn
    rw [← hA]
    rw [if_pos (by omega)]
    simp)
  have HA := Lib.hid haA
  have hx' : (3 : Int) < (x.size : Int) := by omega
  have h6' : (6 : Int) < (x.size : Int) := by omega
  clear hA haA hp hH h4 h5 ha h6
  go_enter Tryz.func97, Tryz.ntmps97
  go_wp2_with fail
  go_at_call 95
  refine (HP.out (A / 3600) _ _ (by have := HA.out; omega) (by have := HA.out; omega) (Below.refl _ _)).mono ?_
  rintro r w1 ⟨s1, rfl, b1, z1, hw1⟩
  have B1 := Lib.hid (And.intro b1 hw1)
  have k1 : (s1.size : Int) ≤ 30 := by omega
  have j1 : ¬ (9223372036854775807 < 1 + s1.size) := by omega
  clear b1 hw1
  go_wp2_with fail
  go_at_call 95
  refine (HP.out (A / 60 % 60) _ _ (by have := HA.out; omega) (by have := HA.out; omega) B1.out.2).mono ?_
  rintro r w2 ⟨s2, rfl, b2, z2, hw2⟩
  have B2 := Lib.hid (And.intro b2 (B1.out.2.trans (hw2.mono B1.out.2.size)))
  have k2 : (s2.size : Int) ≤ 30 := by omega
  clear b2 hw2
  go_wp2_with fail
  go_at_call 95
  refine (HP.out (A % 60) _ _ (by have := HA.out; omega) (by have := HA.out; omega) B2.out.2).mono ?_
  rintro r w3 ⟨s3, rfl, b3, z3, hw3⟩
  have B3 := Lib.hid (And.intro b3 (B2.out.2.trans (hw3.mono B2.out.2.size)))
  have k3 : (s3.size : Int) ≤ 30 := by omega
  clear b3 hw3
  go_wp2
  go_ret
  refine fin_zn rfl ?_ (by omega) B3.out.2
  · rw [Hz.out]
    simp only [bts_app, B1.out.1, B2.out.1, B3.out.1]
    simp [bts]

end Go.Proofs.YtchmhdmapknmfaaGreatDoor
