/-
  Joined: Ja Jb Ie Ka Kb. (Joined by merge.py out of several texts.)
-/
import Derived.Test.YtchmhdmapknmfaaGreatDoorYa
import Derived.Test.YtchmhdmapknmfaaGreatDoorEa
import GoSem.Op.String
import Derived.Test.YtchmhdmapknmfaaGreatDoorHa
import Derived.Test.YtchmhdmapknmfaaGreatDoorEe
import Derived.Deep.QuietTactic
import Derived.BigQuiet

/-
  Plain: which codes a layout's parts have, how long a part's text is, the moment of so many nanoseconds at a place.
-/
namespace Go.Proofs.YtchmhdmapknmfaaGreatDoor.Ly

def stds : List Int := [257, 258, 259, 260, 261, 262, 263, 264, 265, 522, 523, 1036, 1037, 1038, 1039, 1040, 1041, 1042, 275, 276, 1045, 1046, 23, 24, 25, 26, 27, 28, 29, 30, 31, 32, 33]

/-- A code of a part. -/
def Code? (L : Nat) (s : Int) : Prop := s ∈ stds ∨ ∃ (c d : UInt8) (n : Nat), s = frac c d n ∧ (c = 46 ∨ c = 44) ∧ (d = 48 ∨ d = 57) ∧ 1 ≤ n ∧ n ≤ L
def Has (L : Nat) (o : Option (Int × Nat)) : Prop := ∀ s k, o = some (s, k) → Code? L s
theorem Has.none (n : Nat) : Has n none := fun _ _ h => by cases h
theorem Has.some {n k : Nat} {s : Int} (h : Code? n s) : Has n (some (s, k)) := fun s' k' e => by
  obtain ⟨rfl, -⟩ := Prod.mk.inj (Option.some.inj e)
  exact h
theorem Has.ite {n : Nat} {p : Prop} [Decidable p] {x y : Option (Int × Nat)} (h1 : p → Has n x) (h2 : ¬ p → Has n y) : Has n (if p then x else y) := by
  by_cases h : p
  · rw [if_pos h]
    exact h1 h
  · rw [if_neg h]
    exact h2 h

theorem ck_has (l : List UInt8) : Has l.length (ck l) := by
  cases l with
  | nil => exact Has.none _
  | cons c r =>
    unfold ck
    repeat' (first | exact Has.none _ | refine Has.ite (fun _ => ?_) (fun _ => ?_))
    all_goals first
      | exact Has.some (.inl (by decide))
      | skip
    cases r with
    | nil => exact Has.none _
    | cons d r' =>
      simp only
      refine Has.ite (fun hd => ?_) (fun _ => Has.none _)
      refine Has.ite (fun _ => Has.none _) (fun _ => ?_)
      have := run_le d (d :: r')
      exact Has.some (.inr ⟨c, d, _, rfl, by assumption, hd, by unfold run; rw [if_pos rfl]; omega, by simp only [List.length_cons] at *; omega⟩)

/-- A moment whose parts are in their bounds. -/
structure Mo.Ok (m : Mo) : Prop where
  y : m.y < 10000
  mo1 : 1 ≤ m.mo
  mo : m.mo ≤ 12
  d1 : 1 ≤ m.d
  d : m.d ≤ 31
  yd1 : 1 ≤ m.yd
  yd : m.yd ≤ 366
  wd : m.wd < 7
  h : m.h < 24
  mi : m.mi < 60
  s : m.s < 60
  na : m.na < 1000000000
  off1 : -86400 < m.off
  off : m.off < 86400
  off60 : m.off % 60 = 0
  zone : m.zone.length ≤ 200

theorem dn_len {n : Nat} (h : n < 10000000000) : (dn n []).length ≤ 10 := by
  unfold dn
  split
  · simp
  · exact dl_length 10 n [] h

theorem pad_len (w : Nat) {n : Nat} (h : n < 10000000000) : (pad w n).length ≤ w + 10 := by
  have := dn_len h
  unfold pad
  rw [List.length_append, List.length_replicate]
  omega
theorem blank_len (w : Nat) {n : Nat} (h : n < 10000000000) : (blank w n).length ≤ w + 10 := by
  have := dn_len h
  unfold blank
  rw [List.length_append, List.length_replicate]
  omega

theorem names_len (L : List (List UInt8)) (k : Nat) (h : L.all (fun x => decide (x.length ≤ k)) = true) (i : Nat) : (L.getD i []).length ≤ k := by
  rw [List.getD_eq_getElem?_getD]
  cases e : L[i]? with
  | none => simp
  | some x =>
    have := List.all_eq_true.1 h x (List.mem_of_getElem? e)
    simpa using this
theorem month_len (i : Nat) : (monthNames.getD i []).length ≤ 9 := names_len _ _ (by decide) i
theorem day_len (i : Nat) : (dayNames.getD i []).length ≤ 9 := names_len _ _ (by decide) i

theorem zn_len (off : Int) (a b c : Bool) (h : off.natAbs < 10000000000) : (zn off a b c).length ≤ 60 := by
  have h1 := pad_len 2 (n := off.natAbs / 3600) (by omega)
  have h2 := pad_len 2 (n := off.natAbs / 60 % 60) (by omega)
  have h3 := pad_len 2 (n := off.natAbs % 60) (by omega)
  unfold zn
  cases a <;> cases b <;> cases c <;> simp only [List.length_cons, List.length_append, List.length_nil, if_true, if_false, Bool.false_eq_true] <;> omega

theorem trim0_len (l : List UInt8) : (trim0 l).length ≤ l.length := by
  unfold trim0
  rw [List.length_reverse]
  have := (List.dropWhile_sublist (fun x : UInt8 => x == 48) (l := l.reverse)).length_le
  rw [List.length_reverse] at this
  exact this

theorem fracT_len (sep : UInt8) (n : Nat) (t : Bool) (na : Nat) (h : na < 10000000000) : (fracT sep n t na).length ≤ 20 := by
  have h1 := pad_len 9 h
  have h2 : ((pad 9 na).take n).length ≤ 19 := by
    rw [List.length_take]
    omega
  have h3 := trim0_len ((pad 9 na).take n)
  unfold fracT
  cases t
  · simp only [Bool.false_eq_true, if_false]
    split
    · simp
    · rw [List.length_cons]
      omega
  · simp only [if_true]
    split
    · simp
    · rw [List.length_cons]
      omega

set_option maxHeartbeats 2000000 in
theorem txt_len {m : Mo} (h : m.Ok) (std : Int) : (txt m std).length ≤ 300 := by
  obtain ⟨y, mo1, mo, d1, d, yd1, yd, wd, hh, mi, s, na, off1, off, off60, zone⟩ := h
  have ha : half m.h ≤ 24 := by
    unfold half
    split <;> omega
  have m1 := month_len (m.mo - 1)
  have w1 := day_len m.wd
  have P : ∀ w n, n < 10000000000 → w ≤ 9 → (pad w n).length ≤ 300 := fun w n h1 h2 => by
    have := pad_len w h1
    omega
  have B : ∀ w n, n < 10000000000 → w ≤ 9 → (blank w n).length ≤ 300 := fun w n h1 h2 => by
    have := blank_len w h1
    omega
  have Z : ∀ a b c, (zn m.off a b c).length ≤ 300 := fun a b c => by
    have := zn_len m.off a b c (by omega)
    omega
  have T : ∀ x : List UInt8, x.length ≤ 9 → (x.take 3).length ≤ 300 := fun x h => by
    rw [List.length_take]
    omega
  have F := fun sep n t => fracT_len sep n t m.na (by omega)
  have I : ∀ (p : Prop) [Decidable p] (x y : List UInt8), x.length ≤ 300 → y.length ≤ 300 → (if p then x else y).length ≤ 300 := fun p _ x y hx hy => by
    split
    · exact hx
    · exact hy
  unfold txt
  repeat' (with_reducible refine I _ _ _ ?_ ?_)
  all_goals first
    | with_reducible exact P _ _ (by omega) (by omega)
    | with_reducible exact B _ _ (by omega) (by omega)
    | with_reducible exact Z _ _ _
    | with_reducible exact T _ (by omega)
    | with_reducible exact Nat.le_trans (F _ _ _) (by omega)
    | omega
    | simp

/-- The moment so many nanoseconds behind 1970 at a place. -/
def secs (nanos off : Int) : Nat := (nanos / 1000000000 + off + 62135596800).toNat
def moAt (t na : Nat) (off : Int) (zone : List UInt8) : Mo where
  y := yr (t / 86400 + 306)
  mo := am (nsA (t / 86400 + 306)) - 12 * jf (nsA (t / 86400 + 306))
  d := md (nsA (t / 86400 + 306))
  yd := t / 86400 - zd (yr (t / 86400 + 306)) + 1
  wd := (t / 86400 + 306 + 3) % 7
  h := t % 86400 / 3600
  mi := t % 86400 % 3600 / 60
  s := t % 86400 % 60
  na := na
  off := off
  zone := zone
def moOf (nanos off : Int) (zone : List UInt8) : Mo := moAt (secs nanos off) (nanos % 1000000000).toNat off zone

theorem moAt_ok {t na : Nat} {off : Int} {zone : List UInt8} (h1 : 3155760000 ≤ t) (h2 : t < 100000000000) (h3 : na < 1000000000) (h4 : -86400 < off) (h5 : off < 86400) (h6 : off % 60 = 0) (h7 : zone.length ≤ 200) : (moAt t na off zone).Ok := by
  obtain ⟨rd, hrd⟩ : ∃ rd, rd = t / 86400 := ⟨_, rfl⟩
  have hc : nsC (rd + 306) = (4 * (rd + 306) + 3) / 146097 := rfl
  obtain ⟨b1, b2, -⟩ := yr_bounds rd (by omega)
  obtain ⟨s1, s2, s3, -⟩ := ns_split (rd + 306)
  have ho : jf (nsA (rd + 306)) = if 306 ≤ nsA (rd + 306) then 1 else 0 := rfl
  have ha : am (nsA (rd + 306)) = (2141 * nsA (rd + 306) + 197913) / 65536 := rfl
  have hm : md (nsA (rd + 306)) = 1 + (2141 * nsA (rd + 306) + 197913) % 65536 / 2141 := rfl
  have hy : yr (rd + 306) = nsC (rd + 306) * 100 + nsQ (rd + 306) + jf (nsA (rd + 306)) := rfl
  have hz : zd (yr (rd + 306) + 1) ≤ zd (yr (rd + 306)) + 366 := by
    generalize yr (rd + 306) = y
    unfold zd
    omega
  have hy2 : yr (rd + 306) < 10000 := by
    rw [ho] at hy
    split at hy <;> omega
  have hmo : 1 ≤ am (nsA (rd + 306)) - 12 * jf (nsA (rd + 306)) ∧ am (nsA (rd + 306)) - 12 * jf (nsA (rd + 306)) ≤ 12 := by
    rw [ho, ha]
    split <;> omega
  refine ⟨?_, ?_, ?_, ?_, ?_, ?_, ?_, ?_, ?_, ?_, ?_, h3, h4, h5, h6, h7⟩
  · show yr (t / 86400 + 306) < 10000
    rw [← hrd]
    exact hy2
  · show 1 ≤ am (nsA (t / 86400 + 306)) - 12 * jf (nsA (t / 86400 + 306))
    rw [← hrd]
    exact hmo.1
  · show am (nsA (t / 86400 + 306)) - 12 * jf (nsA (t / 86400 + 306)) ≤ 12
    rw [← hrd]
    exact hmo.2
  · show 1 ≤ md (nsA (t / 86400 + 306))
    rw [← hrd]
    omega
  · show md (nsA (t / 86400 + 306)) ≤ 31
    rw [← hrd]
    omega
  · show 1 ≤ t / 86400 - zd (yr (t / 86400 + 306)) + 1
    omega
  · show t / 86400 - zd (yr (t / 86400 + 306)) + 1 ≤ 366
    rw [← hrd]
    omega
  · show (t / 86400 + 306 + 3) % 7 < 7
    omega
  · show t % 86400 / 3600 < 24
    omega
  · show t % 86400 % 3600 / 60 < 60
    omega
  · show t % 86400 % 60 < 60
    omega

theorem secs_ge {nanos off : Int} (h1 : -9223372036854775808 ≤ nanos) (h3 : -86400 < off) : 3155760000 ≤ secs nanos off ∧ ((secs nanos off : Nat) : Int) = nanos / 1000000000 + off + 62135596800 := by
  unfold secs
  omega
theorem secs_lt {nanos off : Int} (h2 : nanos ≤ 9223372036854775807) (h4 : off < 86400) : secs nanos off < 100000000000 := by
  unfold secs
  omega

theorem moOf_ok {nanos off : Int} {zone : List UInt8} (h1 : -9223372036854775808 ≤ nanos) (h2 : nanos ≤ 9223372036854775807) (h4 : -86400 < off) (h5 : off < 86400) (h6 : off % 60 = 0) (h7 : zone.length ≤ 200) : (moOf nanos off zone).Ok :=
  moAt_ok (secs_ge h1 h4).1 (secs_lt h2 h5) (by omega) h4 h5 h6 h7

/-- The day of the year, as package time reckons it. -/
theorem yday_high {rd : Nat} (h : 1 ≤ nsC (rd + 306)) (hj : 306 ≤ nsA (rd + 306)) : rd - zd (yr (rd + 306)) + 1 + 305 = nsA (rd + 306) := by
  obtain ⟨h1, h2, h3, h4⟩ := ns_split (rd + 306)
  unfold yr
  have ej : jf (nsA (rd + 306)) = 1 := by unfold jf; rw [if_pos hj]
  rw [ej]
  generalize nsC (rd + 306) = c at *
  generalize nsQ (rd + 306) = q at *
  generalize nsA (rd + 306) = a at *
  have z1 : zd (c * 100 + q + 1) = 36524 * c + c / 4 + 365 * q + q / 4 := by
    unfold zd
    omega
  omega
theorem div4 {y : Nat} (h : 1 ≤ y) : y / 4 = (y - 1) / 4 + (if y % 4 = 0 then 1 else 0) := by split <;> omega
theorem div100 {y : Nat} (h : 1 ≤ y) : y / 100 = (y - 1) / 100 + (if y % 100 = 0 then 1 else 0) := by split <;> omega
theorem div400 {y : Nat} (h : 1 ≤ y) : y / 400 = (y - 1) / 400 + (if y % 400 = 0 then 1 else 0) := by split <;> omega
set_option maxHeartbeats 2000000 in
theorem yday_low {rd : Nat} (h : 1 ≤ nsC (rd + 306)) (hj : nsA (rd + 306) < 306) :
    rd - zd (yr (rd + 306)) + 1 = nsA (rd + 306) + 60 + (if nsQ (rd + 306) % 4 = 0 ∧ (nsQ (rd + 306) ≠ 0 ∨ nsC (rd + 306) % 4 = 0) then 1 else 0) := by
  obtain ⟨h1, h2, h3, h4⟩ := ns_split (rd + 306)
  unfold yr
  have ej : jf (nsA (rd + 306)) = 0 := by unfold jf; rw [if_neg (by omega)]
  rw [ej]
  simp only [Nat.add_zero]
  generalize nsC (rd + 306) = c at *
  generalize nsQ (rd + 306) = q at *
  generalize nsA (rd + 306) = a at *
  have z1 : zd (c * 100 + q + 1) = 36524 * c + c / 4 + 365 * q + q / 4 := by
    unfold zd
    omega
  have y4 : (c * 100 + q) % 4 = q % 4 := by omega
  have y100 : (c * 100 + q) % 100 = q := by omega
  have y400 : (c * 100 + q) % 400 = 0 ↔ q = 0 ∧ c % 4 = 0 := by omega
  have y1 : 1 ≤ c * 100 + q := by omega
  have z2 : zd (c * 100 + q) + 365 + (if q % 4 = 0 ∧ (q ≠ 0 ∨ c % 4 = 0) then 1 else 0) = zd (c * 100 + q + 1) := by
    clear z1 h1 ej hj
    generalize c * 100 + q = y at *
    unfold zd
    rw [Nat.add_sub_cancel]
    rw [div4 y1, div100 y1, div400 y1]
    by_cases k1 : q % 4 = 0
    · by_cases k2 : q = 0
      · by_cases k3 : c % 4 = 0
        · rw [if_pos ⟨k1, .inr k3⟩, if_pos (by omega), if_pos (by omega), if_pos (by omega)]
          omega
        · rw [if_neg (by omega), if_pos (by omega), if_pos (by omega), if_neg (by omega)]
          omega
      · rw [if_pos ⟨k1, .inl k2⟩, if_pos (by omega), if_neg (by omega), if_neg (by omega)]
        omega
    · rw [if_neg (fun h => k1 h.1), if_neg (by omega), if_neg (by omega), if_neg (by omega)]
      omega
  omega
end Go.Proofs.YtchmhdmapknmfaaGreatDoor.Ly

/-
  Plain: the texts of moments by ISO 8601 are in the order of the moments.
-/
namespace Go.Proofs.YtchmhdmapknmfaaGreatDoor.Ly
open Go.Op

/-- The order of texts. -/
def ble (a b : List UInt8) : Bool := bytesLess a b || a == b

theorem less_app : ∀ (a1 a2 b1 b2 : List UInt8), a1.length = a2.length → bytesLess (a1 ++ b1) (a2 ++ b2) = (bytesLess a1 a2 || (a1 == a2 && bytesLess b1 b2))
  | [], [], b1, b2, _ => by simp [bytesLess]
  | x :: a1, [], _, _, h => by simp at h
  | [], y :: a2, _, _, h => by simp at h
  | x :: a1, y :: a2, b1, b2, h => by
    have ih := less_app a1 a2 b1 b2 (by simpa using h)
    simp only [List.cons_append, bytesLess, ih]
    by_cases e : x = y
    · subst e
      simp
    · have e2 : (x == y) = false := beq_eq_false_iff_ne.2 e
      have e3 : (x :: a1 == y :: a2) = false := by
        rw [beq_eq_false_iff_ne]
        intro e4
        exact e (List.cons.inj e4).1
      rw [e2, e3]
      simp

theorem ble_app {a1 a2 b1 b2 : List UInt8} (h : a1.length = a2.length) (hl : bytesLess a1 a2 = true ∨ a1 = a2 ∧ ble b1 b2 = true) : ble (a1 ++ b1) (a2 ++ b2) = true := by
  unfold ble
  rw [less_app _ _ _ _ h]
  rcases hl with h1 | ⟨rfl, h1⟩
  · rw [h1]
    rfl
  · unfold ble at h1
    rw [Bool.or_eq_true] at h1
    rcases h1 with h1 | h1
    · rw [h1]
      simp
    · rw [beq_iff_eq.1 h1]
      simp

theorem ble_refl (a : List UInt8) : ble a a = true := by unfold ble; simp

theorem digs_out : ∀ (k n : Nat) (out : List UInt8), digs k n out = digs k n [] ++ out
  | 0, _, _ => rfl
  | k + 1, n, out => by
    show digs k (n / 10) (dg n :: out) = digs k (n / 10) [dg n] ++ out
    rw [digs_out k (n / 10) (dg n :: out), digs_out k (n / 10) [dg n], List.append_assoc]
    rfl
theorem digs_length : ∀ (k n : Nat), (digs k n []).length = k
  | 0, _ => rfl
  | k + 1, n => by
    show (digs k (n / 10) [dg n]).length = _
    rw [digs_out, List.length_append, digs_length k]
    rfl

theorem dg_lt {a b : Nat} (h : a % 10 < b % 10) : bytesLess [dg a] [dg b] = true := by
  have h1 : dg a < dg b := by
    rw [UInt8.lt_iff_toNat_lt, dg_toNat, dg_toNat]
    omega
  simp [bytesLess, h1]

theorem digs_less : ∀ (k a b : Nat), a < 10 ^ k → b < 10 ^ k → a < b → bytesLess (digs k a []) (digs k b []) = true
  | 0, a, b, ha, hb, h => by
    simp at ha hb
    omega
  | k + 1, a, b, ha, hb, h => by
    show bytesLess (digs k (a / 10) [dg a]) (digs k (b / 10) [dg b]) = true
    rw [digs_out k (a / 10), digs_out k (b / 10), less_app _ _ _ _ (by rw [digs_length, digs_length])]
    rw [Nat.pow_succ] at ha hb
    by_cases h1 : a / 10 < b / 10
    · rw [digs_less k _ _ (by omega) (by omega) h1]
      rfl
    · have e : a / 10 = b / 10 := by omega
      rw [e, dg_lt (by omega)]
      simp

theorem pad_less {k a b : Nat} (hk : 1 ≤ k) (ha : a < 10 ^ k) (hb : b < 10 ^ k) (h : a < b) : bytesLess (pad k a) (pad k b) = true := by
  rw [pad_digs hk ha, pad_digs hk hb]
  exact digs_less k a b ha hb h
theorem pad_length {k a : Nat} (hk : 1 ≤ k) (ha : a < 10 ^ k) : (pad k a).length = k := by
  rw [pad_digs hk ha]
  exact digs_length k a

theorem lex_pad (k : Nat) {a b : Nat} {r1 r2 : List UInt8} (hk : 1 ≤ k) (ha : a < 10 ^ k) (hb : b < 10 ^ k) (h : a < b ∨ a = b ∧ ble r1 r2 = true) : ble (pad k a ++ r1) (pad k b ++ r2) = true := by
  refine ble_app (by rw [pad_length hk ha, pad_length hk hb]) ?_
  rcases h with h | ⟨rfl, h⟩
  · exact .inl (pad_less hk ha hb h)
  · exact .inr ⟨rfl, h⟩
theorem lex_sep (c : UInt8) {r1 r2 : List UInt8} (h : ble r1 r2 = true) : ble (c :: r1) (c :: r2) = true :=
  ble_app (a1 := [c]) (a2 := [c]) rfl (.inr ⟨rfl, h⟩)

theorem milli {na : Nat} (h : na < 1000000000) : (pad 9 na).take 3 = pad 3 (na / 1000000) := by
  rw [pad_digs (by omega) (by omega), pad_digs (by omega) (by omega)]
  have e : na / 1000000 = na / 10 / 10 / 10 / 10 / 10 / 10 := by omega
  rw [e]
  rfl

/-- The layout of ISO 8601. -/
def iso : List UInt8 := [50, 48, 48, 54, 45, 48, 49, 45, 48, 50, 84, 49, 53, 58, 48, 52, 58, 48, 53, 46, 48, 48, 48, 90, 48, 55, 48, 48]

theorem iso_lay (W : Int → List UInt8) : lay W iso = W 275 ++ (45 :: (W 260 ++ (45 :: (W 265 ++ (84 :: (W 1036 ++ (58 :: (W 1040 ++ (58 :: (W 1042 ++ (W 196642 ++ (W 24 ++ [])))))))))))) := rfl

theorem iso_txt {m : Mo} (h : m.na < 1000000000) : lay (txt m) iso = pad 4 m.y ++ (45 :: (pad 2 m.mo ++ (45 :: (pad 2 m.d ++ (84 :: (pad 2 m.h ++ (58 :: (pad 2 m.mi ++ (58 :: (pad 2 m.s ++ (46 :: (pad 3 (m.na / 1000000) ++
    ((if m.off = 0 then [90] else zn m.off false true false) ++ []))))))))))))) := by
  rw [iso_lay]
  have e : txt m 196642 = 46 :: pad 3 (m.na / 1000000) := by
    have e1 : txt m 196642 = fracT 46 3 false m.na := rfl
    rw [e1]
    unfold fracT
    simp only [Bool.false_eq_true, if_false]
    rw [milli h, if_neg]
    intro e2
    have := pad_length (k := 3) (a := m.na / 1000000) (by omega) (by omega)
    rw [e2] at this
    simp at this
  rw [e]
  rfl

theorem zd_step (a : Nat) : zd a ≤ zd (a + 1) := by
  unfold zd
  obtain ⟨x, hx⟩ : ∃ x, x = a - 1 := ⟨_, rfl⟩
  rw [← hx, Nat.add_sub_cancel]
  by_cases h : a = 0
  · subst h
    omega
  · rw [show a = x + 1 by omega]
    clear hx h
    omega
theorem zd_mono {a b : Nat} (h : a ≤ b) : zd a ≤ zd b := by
  induction h with
  | refl => exact Nat.le_refl _
  | step _ ih => exact Nat.le_trans ih (zd_step _)

/-- The month and the day as one number. -/
def mk (l : Bool) (i : Nat) : Nat := (mlp l 12 1 i).1 * 32 + (mlp l 12 1 i).2
set_option maxRecDepth 100000 in
theorem mk_all : (List.range 365).all (fun i => decide (mk false i < mk false (i + 1)) && decide (mk true i < mk true (i + 1))) = true := by decide +kernel
theorem mk_step (l : Bool) {i : Nat} (h : i < 365) : mk l i < mk l (i + 1) := by
  have := List.all_eq_true.1 mk_all i (List.mem_range.2 h)
  rw [Bool.and_eq_true, decide_eq_true_iff, decide_eq_true_iff] at this
  cases l
  · exact this.1
  · exact this.2
theorem mk_mono (l : Bool) : ∀ (n i : Nat), i + n + 1 ≤ 365 → mk l i < mk l (i + n + 1)
  | 0, i, h => mk_step l (by omega)
  | n + 1, i, h => Nat.lt_trans (mk_mono l n i (by omega)) (mk_step l (by omega))

theorem date_mono {r1 r2 : Nat} (h1 : 1 ≤ nsC (r1 + 306)) (h : r1 < r2) (M : Nat → Nat) (D : Nat → Nat) (hM : ∀ r, M r = am (nsA (r + 306)) - 12 * jf (nsA (r + 306))) (hD : ∀ r, D r = md (nsA (r + 306))) (hD31 : D r1 ≤ 31) :
    yr (r1 + 306) < yr (r2 + 306) ∨ yr (r1 + 306) = yr (r2 + 306) ∧ (M r1 < M r2 ∨ M r1 = M r2 ∧ D r1 < D r2) := by
  have h2 : 1 ≤ nsC (r2 + 306) := by
    have q1 : nsC (r1 + 306) = (4 * (r1 + 306) + 3) / 146097 := rfl
    have q2 : nsC (r2 + 306) = (4 * (r2 + 306) + 3) / 146097 := rfl
    clear hM hD hD31
    rw [q1] at h1
    rw [q2]
    exact Nat.le_trans h1 (Nat.div_le_div_right (by omega))
  obtain ⟨a1, a2, a3⟩ := yr_bounds r1 h1
  obtain ⟨b1, b2, b3⟩ := yr_bounds r2 h2
  rcases Nat.lt_trichotomy (yr (r1 + 306)) (yr (r2 + 306)) with hy | hy | hy
  · exact .inl hy
  · refine .inr ⟨hy, ?_⟩
    rw [← hy] at b1 b2 b3
    obtain ⟨d1, e1⟩ : ∃ d, d = r1 - zd (yr (r1 + 306)) := ⟨_, rfl⟩
    obtain ⟨d2, e2⟩ : ∃ d, d = r2 - zd (yr (r1 + 306)) := ⟨_, rfl⟩
    rw [← e1] at a3
    rw [← e2] at b3
    have hz : zd (yr (r1 + 306) + 1) ≤ zd (yr (r1 + 306)) + 366 := by
      generalize yr (r1 + 306) = y
      unfold zd
      omega
    have hm := mk_mono (lp (yr (r1 + 306))) (d2 - d1 - 1) d1 (by omega)
    rw [show d1 + (d2 - d1 - 1) + 1 = d2 by omega] at hm
    unfold mk at hm
    rw [a3, b3, ← hM, ← hM, ← hD, ← hD] at hm
    simp only at hm
    have := hD31
    rcases Nat.lt_trichotomy (M r1) (M r2) with hh | hh | hh
    · exact .inl hh
    · exact .inr ⟨hh, by omega⟩
    · have hD2 : D r2 ≤ 31 := by
        rw [hD]
        unfold md
        omega
      omega
  · have := zd_mono (a := yr (r2 + 306) + 1) (b := yr (r1 + 306)) (by omega)
    omega

theorem iso_le {n1 n2 off : Int} {zone : List UInt8} (a1 : -9223372036854775808 ≤ n1) (a2 : n1 ≤ 9223372036854775807) (b1 : -9223372036854775808 ≤ n2) (b2 : n2 ≤ 9223372036854775807) (h4 : -86400 < off) (h5 : off < 86400) (h6 : off % 60 = 0) (h7 : zone.length ≤ 200)
    (h : n1 ≤ n2) : ble (lay (txt (moOf n1 off zone)) iso) (lay (txt (moOf n2 off zone)) iso) = true := by
  have o1 := moOf_ok a1 a2 h4 h5 h6 h7
  have o2 := moOf_ok b1 b2 h4 h5 h6 h7
  rw [iso_txt o1.na, iso_txt o2.na]
  have g1 := secs_ge a1 h4
  have g2 := secs_ge b1 h4
  obtain ⟨t1, e1⟩ : ∃ t, t = secs n1 off := ⟨_, rfl⟩
  obtain ⟨t2, e2⟩ : ∃ t, t = secs n2 off := ⟨_, rfl⟩
  rw [← e1] at g1
  rw [← e2] at g2
  have hc : 1 ≤ nsC (t1 / 86400 + 306) := by unfold nsC; omega
  have hlex : t1 < t2 ∨ t1 = t2 ∧ (n1 % 1000000000).toNat ≤ (n2 % 1000000000).toNat := by omega
  have key : t1 / 86400 < t2 / 86400 ∨ t1 / 86400 = t2 / 86400 ∧ (t1 % 86400 < t2 % 86400 ∨ t1 % 86400 = t2 % 86400 ∧ (n1 % 1000000000).toNat ≤ (n2 % 1000000000).toNat) := by omega
  unfold moOf at o1 o2 ⊢
  rw [← e1] at o1 ⊢
  rw [← e2] at o2 ⊢
  generalize (n1 % 1000000000).toNat = na1 at *
  generalize (n2 % 1000000000).toNat = na2 at *
  have p4 : (10000 : Nat) = 10 ^ 4 := rfl
  have p2 : (100 : Nat) = 10 ^ 2 := rfl
  have p3 : (1000 : Nat) = 10 ^ 3 := rfl
  have := o1.mo; have := o2.mo; have := o1.d; have := o2.d; have := o1.h; have := o2.h; have := o1.mi; have := o2.mi; have := o1.s; have := o2.s; have := o1.na; have := o2.na
  refine lex_pad 4 (by omega) (p4 ▸ o1.y) (p4 ▸ o2.y) ?_
  rcases key with hk | ⟨hk, hk2⟩
  · rcases date_mono hc hk (fun r => am (nsA (r + 306)) - 12 * jf (nsA (r + 306))) (fun r => md (nsA (r + 306))) (fun _ => rfl) (fun _ => rfl) o1.d with hy | ⟨hy, hm | ⟨hm, hd⟩⟩
    · exact .inl hy
    · exact .inr ⟨hy, lex_sep 45 (lex_pad 2 (by omega) (by omega) (by omega) (.inl hm))⟩
    · exact .inr ⟨hy, lex_sep 45 (lex_pad 2 (by omega) (by omega) (by omega) (.inr ⟨hm, lex_sep 45 (lex_pad 2 (by omega) (by omega) (by omega) (.inl hd))⟩))⟩
  · have ey : (moAt t1 na1 off zone).y = (moAt t2 na2 off zone).y := by
      show yr (t1 / 86400 + 306) = yr (t2 / 86400 + 306)
      rw [hk]
    have em : (moAt t1 na1 off zone).mo = (moAt t2 na2 off zone).mo := by
      show am (nsA (t1 / 86400 + 306)) - 12 * jf (nsA (t1 / 86400 + 306)) = am (nsA (t2 / 86400 + 306)) - 12 * jf (nsA (t2 / 86400 + 306))
      rw [hk]
    have ed : (moAt t1 na1 off zone).d = (moAt t2 na2 off zone).d := by
      show md (nsA (t1 / 86400 + 306)) = md (nsA (t2 / 86400 + 306))
      rw [hk]
    refine .inr ⟨ey, lex_sep 45 (lex_pad 2 (by omega) (by omega) (by omega) (.inr ⟨em, lex_sep 45 (lex_pad 2 (by omega) (by omega) (by omega) (.inr ⟨ed, lex_sep 84 (lex_pad 2 (by omega) (by omega) (by omega) ?_)⟩))⟩))⟩
    have q1 : (moAt t1 na1 off zone).h = t1 % 86400 / 3600 := rfl
    have q2 : (moAt t2 na2 off zone).h = t2 % 86400 / 3600 := rfl
    have q3 : (moAt t1 na1 off zone).mi = t1 % 86400 % 3600 / 60 := rfl
    have q4 : (moAt t2 na2 off zone).mi = t2 % 86400 % 3600 / 60 := rfl
    have q5 : (moAt t1 na1 off zone).s = t1 % 86400 % 60 := rfl
    have q6 : (moAt t2 na2 off zone).s = t2 % 86400 % 60 := rfl
    have q7 : (moAt t1 na1 off zone).na = na1 := rfl
    have q8 : (moAt t2 na2 off zone).na = na2 := rfl
    have c1 : (moAt t1 na1 off zone).h < (moAt t2 na2 off zone).h ∨ (moAt t1 na1 off zone).h = (moAt t2 na2 off zone).h ∧ ((moAt t1 na1 off zone).mi < (moAt t2 na2 off zone).mi ∨ (moAt t1 na1 off zone).mi = (moAt t2 na2 off zone).mi ∧
        ((moAt t1 na1 off zone).s < (moAt t2 na2 off zone).s ∨ (moAt t1 na1 off zone).s = (moAt t2 na2 off zone).s ∧ ((moAt t1 na1 off zone).na / 1000000 < (moAt t2 na2 off zone).na / 1000000 ∨ (moAt t1 na1 off zone).na / 1000000 = (moAt t2 na2 off zone).na / 1000000))) := by
      rw [q1, q2, q3, q4, q5, q6, q7, q8]
      clear q1 q2 q3 q4 q5 q6 q7 q8 ey em ed
      omega
    rcases c1 with c1 | ⟨c1, c2⟩
    · exact .inl c1
    refine .inr ⟨c1, lex_sep 58 (lex_pad 2 (by omega) (by omega) (by omega) ?_)⟩
    rcases c2 with c2 | ⟨c2, c3⟩
    · exact .inl c2
    refine .inr ⟨c2, lex_sep 58 (lex_pad 2 (by omega) (by omega) (by omega) ?_)⟩
    rcases c3 with c3 | ⟨c3, c4⟩
    · exact .inl c3
    refine .inr ⟨c3, lex_sep 46 (lex_pad 3 (by omega) (by omega) (by omega) ?_)⟩
    rcases c4 with c4 | c4
    · exact .inl c4
    exact .inr ⟨c4, ble_refl _⟩
end Go.Proofs.YtchmhdmapknmfaaGreatDoor.Ly

/-
  appendNano of package time.
-/
namespace Go.Proofs.YtchmhdmapknmfaaGreatDoor
open Go.RowKit Ly

/-- The bits of a code of parts of a second. -/
def fbits (e q : Int) (n : Nat) : Bool :=
  bits BinOp.and IntKind.i64 (e + (n : Int) * 65536 + q) 65535 == e && bits BinOp.and IntKind.i64 (e + (n : Int) * 65536 + q) 256 == 0 && bits BinOp.and IntKind.i64 (e + (n : Int) * 65536 + q) 512 == 0 &&
  bits BinOp.and IntKind.i64 (e + (n : Int) * 65536 + q) 1024 == 0 && bits BinOp.and IntKind.i64 ((e + (n : Int) * 65536 + q) / 65536) 4095 == (n : Int)
theorem fbits_all : (List.range 1001).all (fun n => fbits 34 0 n && fbits 35 0 n && fbits 34 268435456 n && fbits 35 268435456 n) = true := by decide +kernel
theorem fbits_at {e q : Int} {n : Nat} (he : e = 34 ∨ e = 35) (hq : q = 0 ∨ q = 268435456) (hn : n ≤ 1000) : fbits e q n = true := by
  have := List.all_eq_true.1 fbits_all n (List.mem_range.2 (by omega))
  simp only [Bool.and_eq_true] at this
  obtain ⟨⟨⟨t1, t2⟩, t3⟩, t4⟩ := this
  rcases he with rfl | rfl
  · rcases hq with rfl | rfl
    · exact t1
    · exact t3
  · rcases hq with rfl | rfl
    · exact t2
    · exact t4

theorem trim0_zero (D : List UInt8) : trim0 (D ++ [48]) = trim0 D := by
  unfold trim0
  rw [List.reverse_append]
  rfl
theorem trim0_keep (D : List UInt8) {c : UInt8} (h : c ≠ 48) : trim0 (D ++ [c]) = D ++ [c] := by
  unfold trim0
  rw [List.reverse_append, List.reverse_singleton, List.singleton_append, List.dropWhile_cons_of_neg (by simpa using h), List.reverse_cons, List.reverse_reverse]

theorem digs_ge : ∀ (k n : Nat) (out : List UInt8), (∀ c ∈ out, 48 ≤ c.toNat) → ∀ c ∈ digs k n out, 48 ≤ c.toNat
  | 0, _, _, h => h
  | k + 1, n, out, h => by
    refine digs_ge k (n / 10) (dg n :: out) (fun c hc => ?_)
    rcases List.mem_cons.1 hc with rfl | hc
    · rw [dg_toNat]
      omega
    · exact h c hc

/-- A part of a second: the code in its pieces. -/
structure Fr (std e q : Int) (n : Nat) (dot : UInt8) : Prop where
  std : std = e + (n : Int) * 65536 + q
  e : e = 34 ∨ e = 35
  q : q = 0 ∧ dot = 46 ∨ q = 268435456 ∧ dot = 44
  n1 : 1 ≤ n
  n : n ≤ 1000

theorem Fr.txt {std e q : Int} {n : Nat} {dot : UInt8} (h : Fr std e q n dot) (m : Mo) : Ly.txt m std = fracT dot n (e == 35) m.na := by
  obtain ⟨rfl, he, hq, h1, h2⟩ := h
  have hn : ((e + (n : Int) * 65536 + q).toNat / 65536) % 4096 = n := by rcases he with rfl | rfl <;> rcases hq with ⟨rfl, rfl⟩ | ⟨rfl, rfl⟩ <;> omega
  have hr : ((e + (n : Int) * 65536 + q).toNat % 65536 == 35) = (e == 35) := by
    rcases he with rfl | rfl
    · rw [show (((34 : Int) == 35) = false) from rfl, beq_eq_false_iff_ne]
      rcases hq with ⟨rfl, rfl⟩ | ⟨rfl, rfl⟩ <;> omega
    · rw [show (((35 : Int) == 35) = true) from rfl, beq_iff_eq]
      rcases hq with ⟨rfl, rfl⟩ | ⟨rfl, rfl⟩ <;> omega
  have hd : (if 268435456 ≤ e + (n : Int) * 65536 + q then (44 : UInt8) else 46) = dot := by
    rcases hq with ⟨rfl, rfl⟩ | ⟨rfl, rfl⟩
    · rw [if_neg (by rcases he with rfl | rfl <;> omega)]
    · rw [if_pos (by rcases he with rfl | rfl <;> omega)]
  have big : 65536 ≤ e + (n : Int) * 65536 + q := by rcases he with rfl | rfl <;> rcases hq with ⟨rfl, rfl⟩ | ⟨rfl, rfl⟩ <;> omega
  unfold Ly.txt
  rw [hn, hr, hd]
  repeat rw [if_neg (by omega)]

set_option maxRecDepth 100000 in
set_option maxHeartbeats 1000000 in
theorem digitsLen_any {std e q : Int} {n : Nat} {dot : UInt8} (h : Fr std e q n dot) (w : World) : Calls Tryz.prog 181 #[.int .i64 std] w fun r w' => r = .returned (.int .i64 (n : Int)) ∧ w = w' := by
  have hb := fbits_at h.e (h.q.elim (fun x => .inl x.1) (fun x => .inr x.1)) h.n
  simp only [fbits, Bool.and_eq_true, beq_iff_eq, ← h.std] at hb
  have h5 := hb.2
  have s0 : 0 ≤ std := by have := h.std; have := h.n; rcases h.e with e1 | e1 <;> rcases h.q with ⟨q1, -⟩ | ⟨q1, -⟩ <;> omega
  clear hb h
  go_enter Tryz.func181, Tryz.ntmps181
  go_wp2
  go_ret
  exact ⟨rfl, rfl⟩

set_option maxRecDepth 100000 in
set_option maxHeartbeats 1000000 in
theorem separator_any {std e q : Int} {n : Nat} {dot : UInt8} (h : Fr std e q n dot) (w : World) : Calls Tryz.prog 182 #[.int .i64 std] w fun r w' => r = .returned (.int .u8 (dot.toNat : Int)) ∧ w = w' := by
  have hs := h.std
  have hn := h.n
  rcases h.q with ⟨q1, rfl⟩ | ⟨q1, rfl⟩
  · have f : (std / 268435456 == 0) = true := by rw [beq_iff_eq]; rcases h.e with e1 | e1 <;> omega
    clear h hs hn q1
    go_enter Tryz.func182, Tryz.ntmps182
    go_wp2
    go_ret
    exact ⟨rfl, rfl⟩
  · have f : (std / 268435456 == 0) = false := by rw [beq_eq_false_iff_ne]; rcases h.e with e1 | e1 <;> omega
    clear h hs hn q1
    go_enter Tryz.func182, Tryz.ntmps182
    go_wp2
    go_ret
    exact ⟨rfl, rfl⟩

theorem fbits_bit {std e q : Int} {n : Nat} {dot : UInt8} (hf : Fr std e q n dot) : bits BinOp.and IntKind.i64 std 65535 = e := by
  have hb := fbits_at hf.e (hf.q.elim (fun x => .inl x.1) (fun x => .inr x.1)) hf.n
  simp only [fbits, Bool.and_eq_true, beq_iff_eq, ← hf.std] at hb
  exact hb.1.1.1.1
theorem fbits_none {std e q : Int} {n : Nat} {dot : UInt8} (hf : Fr std e q n dot) : bits BinOp.and IntKind.i64 std 256 = 0 ∧ bits BinOp.and IntKind.i64 std 512 = 0 ∧ bits BinOp.and IntKind.i64 std 1024 = 0 := by
  have hb := fbits_at hf.e (hf.q.elim (fun x => .inl x.1) (fun x => .inr x.1)) hf.n
  simp only [fbits, Bool.and_eq_true, beq_iff_eq, ← hf.std] at hb
  exact ⟨hb.1.1.1.2, hb.1.1.2, hb.1.2⟩

/-- What the loop that leaves noughts out keeps. -/
def NanRel (B : Nat) (xs D : List UInt8) (dot : UInt8) (v : Value) (w : World) (v0 : Value) (wr : World) : Prop :=
  ∃ (g cap L : Nat) (E : List UInt8), v0 = .slice (some ⟨g, 0, none⟩) L cap ∧ L = xs.length + 1 + E.length ∧ BR B (.slice (some ⟨g, 0, none⟩) L cap) (xs ++ dot :: E) wr ∧ trim0 E = trim0 D ∧ E.length ≤ 9 ∧ (∀ c ∈ E, 48 ≤ c.toNat) ∧ Gw v w (.slice (some ⟨g, 0, none⟩) L cap) wr

theorem trim0_nought : ∀ n : Nat, trim0 (List.replicate n 48) = []
  | 0 => rfl
  | n + 1 => by rw [List.replicate_succ', trim0_zero, trim0_nought n]

theorem fracT_nought (dot : UInt8) (n : Nat) : fracT dot n true 0 = [] := by
  have e : (pad 9 0).take n = List.replicate (min n 9) 48 := by
    have e1 : pad 9 0 = List.replicate 9 48 := by rw [pad_digs (by omega) (by omega)]; rfl
    rw [e1, List.take_replicate]
  unfold fracT
  simp only [if_true]
  rw [e, trim0_nought, if_pos rfl]

set_option maxRecDepth 100000 in
set_option maxHeartbeats 4000000 in
theorem nano_zero {B : Nat} {v : Value} {xs : List UInt8} {std q : Int} {n : Nat} {dot : UInt8} (hf : Fr std 35 q n dot) (w : World) (h : BR B v xs w) :
    Calls Tryz.prog 160 #[v, .int .i64 0, .int .i64 std] w (BrPost B v (xs ++ fracT dot n true 0) w) := by
  have H := Lib.hid h
  have HF := Lib.hid hf
  have hb := fbits_at hf.e (hf.q.elim (fun x => .inl x.1) (fun x => .inr x.1)) hf.n
  simp only [fbits, Bool.and_eq_true, beq_iff_eq, ← hf.std] at hb
  have hbit := hb.1.1.1.1
  have hn0 : ((n : Int) == 0) = false := by rw [beq_eq_false_iff_ne]; have := hf.n1; omega
  clear hb h hf
  go_enter Tryz.func160, Tryz.ntmps160
  go_wp2_with (go_at_call 181; refine (digitsLen_any HF.out _).mono ?_; rintro r w' ⟨rfl, rfl⟩)
  go_wp2
  go_ret
  exact ⟨v, rfl, by rw [fracT_nought, List.append_nil]; exact H.out, Gw.refl _ _⟩

theorem BR.last {B g n cap : Nat} {l : List UInt8} {c : UInt8} {w : World} (h : BR B (.slice (some ⟨g, 0, none⟩) n cap) (l ++ [c]) w) {k : Nat} (hk : k = l.length) : w.cell? ⟨g, k, none⟩ = some (.int .u8 (c.toNat : Int)) := by
  subst hk
  have := h.byte (k := l.length) (by simp)
  simpa using this

theorem take_frac (xs : List UInt8) (dot : UInt8) (D : List UInt8) (n : Nat) : (xs ++ [dot] ++ D).take (xs.length + 1 + n) = xs ++ dot :: D.take n := by
  have e : xs.length + 1 + n = (xs ++ [dot]).length + n := by rw [List.length_append, List.length_singleton]
  rw [e, List.take_length_add_append, List.append_assoc]
  rfl

theorem fracT_plain (dot : UInt8) {n na : Nat} (h1 : 1 ≤ n) (hna : na < 1000000000) : fracT dot n false na = dot :: (pad 9 na).take n := by
  unfold fracT
  simp only [Bool.false_eq_true, if_false]
  rw [if_neg]
  intro e
  have := congrArg List.length e
  rw [List.length_take, pad_length (by decide) hna, List.length_nil] at this
  omega
theorem fracT_none (dot : UInt8) {n na : Nat} (h : trim0 ((pad 9 na).take n) = []) : fracT dot n true na = [] := by
  unfold fracT
  simp only [if_true]
  rw [if_pos h]
theorem fracT_some (dot : UInt8) {n na : Nat} {E : List UInt8} {c : UInt8} (h : trim0 ((pad 9 na).take n) = E ++ [c]) : fracT dot n true na = dot :: (E ++ [c]) := by
  unfold fracT
  simp only [if_true]
  rw [h, if_neg (by simp)]
theorem pad9_ge {n na : Nat} (hna : na < 1000000000) : ∀ c ∈ (pad 9 na).take n, 48 ≤ c.toNat := by
  intro c hc
  have := List.mem_of_mem_take hc
  rw [pad_digs (by decide) hna] at this
  exact digs_ge 9 na [] (fun _ h => by cases h) c this

def slLen : Value → Nat
  | .slice _ l _ => l
  | _ => 0

set_option maxRecDepth 100000 in
set_option maxHeartbeats 4000000 in
theorem nano_plain {B : Nat} {v : Value} {xs : List UInt8} {std q : Int} {n : Nat} {dot : UInt8} (hf : Fr std 34 q n dot) (na : Nat) (x : Int) (hx : x = (na : Int)) (hna : na < 1000000000) (w : World) (h : BR B v xs w) (hxs : xs.length ≤ 890000) (hB : B ≤ w.heap.size) :
    Calls Tryz.prog 160 #[v, .int .i64 x, .int .i64 std] w (BrPost B v (xs ++ fracT dot n false na) w) := by
  have H := Lib.hid h
  have HF := Lib.hid hf
  have HX := Lib.hid hx
  have HN := Lib.hid hna
  have Hxs := Lib.hid hxs
  have hb := fbits_at hf.e (hf.q.elim (fun x => .inl x.1) (fun x => .inr x.1)) hf.n
  simp only [fbits, Bool.and_eq_true, beq_iff_eq, ← hf.std] at hb
  have hbit := hb.1.1.1.1
  clear hb h hf hx hna hxs
  go_enter Tryz.func160, Tryz.ntmps160
  go_wp2_with fail
  go_at_call 181
  refine (digitsLen_any HF.out _).mono ?_
  rintro r w' ⟨rfl, rfl⟩
  go_wp2_with fail
  go_at_call 182
  refine (separator_any HF.out _).mono ?_
  rintro r w' ⟨rfl, rfl⟩
  go_wp2_with (at_builtin; refine wpList_append_br rfl _ _ rfl rfl (H.out.alloc _) [dot] ⟨w.heap.size, 0, none⟩ 1 1 rfl rfl cells_one (by have := Hxs.out; simp; omega) (by simp; omega) ?_)
  intro v1 w1 hb1 hg1
  have Hb1 := Lib.hid hb1
  have Hg1 := Lib.hid (((Gw.refl v w).alloc _).trans hg1)
  have hB1 : B ≤ w1.heap.size := by have := hg1.1.size; simp only [World.alloc, Array.size_push] at this; omega
  clear hb1 hg1
  go_wp2_with fail
  go_at_call 157
  refine (aint 9 na x HX.out _ Hb1.out (.inr (.inr ⟨by decide, by decide, by decide, HN.out⟩)) (by have := Hxs.out; simp; omega) hB1).mono ?_
  rintro r w2 ⟨v2, rfl, hb2, hg2⟩
  have Hb2 := Lib.hid hb2
  have Hg2 := Lib.hid (Hg1.out.trans hg2)
  clear hb2 hg2
  obtain ⟨g, cap, hv2, -, -, hle, hcm⟩ := Hb2.out.slice
  have hl9 : (Ly.pad 9 na).length = 9 := Ly.pad_length (by decide) (by have := HN.out; omega)
  obtain ⟨M, hM⟩ : ∃ M, M = (xs ++ [dot] ++ Ly.pad 9 na).length := ⟨_, rfl⟩
  rw [← hM] at hv2 hle
  rw [List.length_append, List.length_append, hl9, List.length_singleton] at hM
  subst hv2
  have hM9 : (10 : Int) ≤ (M : Int) := by omega
  have hMb : (M : Int) ≤ 1000000 := by have := Hxs.out; omega
  have hMc : (M : Int) ≤ (cap : Int) := by omega
  have HM := Lib.hid hM
  clear hM hl9 hle
  by_cases hn : n < 9
  · have hn9 : (n : Int) < 9 := by omega
    have k1 : (0 : Int) ≤ (M : Int) - 9 + (n : Int) := by omega
    have k2 : (M : Int) - 9 + (n : Int) ≤ (cap : Int) := by omega
    have Hn := Lib.hid hn
    clear hn
    go_wp2
    go_ret
    have hm := HM.out
    have e1 : M - 9 + n = xs.length + 1 + n := by omega
    have hb3 := Hb2.out.take (k := xs.length + 1 + n) (by simp only [List.length_append, List.length_singleton]; rw [Ly.pad_length (by decide) HN.out]; have := Hn.out; omega)
    rw [take_frac] at hb3
    refine ⟨.slice (some ⟨g, 0, none⟩) (xs.length + 1 + n) cap, ?_, by rw [fracT_plain dot HF.out.n1 HN.out]; exact hb3, Hg2.out.same rfl⟩
    show Ending.returned (.slice (some ⟨g, 0, none⟩) (M - 9 + n) cap) = _
    rw [e1]
  · have hn9 : (9 : Int) ≤ (n : Int) := by omega
    have Hn := Lib.hid hn
    clear hn
    go_wp2
    go_ret
    refine ⟨.slice (some ⟨g, 0, none⟩) M cap, rfl, ?_, Hg2.out⟩
    have hb3 := Hb2.out
    rw [List.append_assoc] at hb3
    rw [fracT_plain dot HF.out.n1 HN.out, List.take_of_length_le (by rw [Ly.pad_length (by decide) HN.out]; have := Hn.out; omega)]
    exact hb3

set_option maxRecDepth 100000 in
set_option maxHeartbeats 4000000 in
theorem nano_trim {B : Nat} {v : Value} {xs : List UInt8} {std q : Int} {n : Nat} {dot : UInt8} (hf : Fr std 35 q n dot) (na : Nat) (x : Int) (hx : x = (na : Int)) (hna : na < 1000000000) (hpos : 0 < na) (w : World) (h : BR B v xs w) (hxs : xs.length ≤ 890000) (hB : B ≤ w.heap.size) :
    Calls Tryz.prog 160 #[v, .int .i64 x, .int .i64 std] w (BrPost B v (xs ++ fracT dot n true na) w) := by
  have H := Lib.hid h
  have HF := Lib.hid hf
  have HX := Lib.hid hx
  have HN := Lib.hid hna
  have Hxs := Lib.hid hxs
  have hb := fbits_at hf.e (hf.q.elim (fun x => .inl x.1) (fun x => .inr x.1)) hf.n
  simp only [fbits, Bool.and_eq_true, beq_iff_eq, ← hf.std] at hb
  have hbit := hb.1.1.1.1
  have hn0 : ((n : Int) == 0) = false := by rw [beq_eq_false_iff_ne]; have := hf.n1; omega
  have hx0 : (x == 0) = false := by rw [beq_eq_false_iff_ne]; omega
  have Hdot := Lib.hid (show dot.toNat < 48 by rcases hf.q with ⟨-, h⟩ | ⟨-, h⟩ <;> rw [h] <;> decide)
  have f48d : ((dot.toNat : Int) == 48) = false := by rw [beq_eq_false_iff_ne]; have := Hdot.out; omega
  have HE := Lib.hid (show ∀ (E : List UInt8) (L : Nat), E.length ≤ 9 → L = xs.length + 1 + E.length → L ≤ 1000000 by intro E L h1 h2; omega)
  clear hb h hf hx hna hxs hpos
  go_enter Tryz.func160, Tryz.ntmps160
  go_wp2_with fail
  go_at_call 181
  refine (digitsLen_any HF.out _).mono ?_
  rintro r w' ⟨rfl, rfl⟩
  go_wp2_with fail
  go_at_call 182
  refine (separator_any HF.out _).mono ?_
  rintro r w' ⟨rfl, rfl⟩
  go_wp2_with (at_builtin; refine wpList_append_br rfl _ _ rfl rfl (H.out.alloc _) [dot] ⟨w.heap.size, 0, none⟩ 1 1 rfl rfl cells_one (by have := Hxs.out; simp; omega) (by simp; omega) ?_)
  intro v1 w1 hb1 hg1
  have Hb1 := Lib.hid hb1
  have Hg1 := Lib.hid (((Gw.refl v w).alloc _).trans hg1)
  have hB1 : B ≤ w1.heap.size := by have := hg1.1.size; simp only [World.alloc, Array.size_push] at this; omega
  clear hb1 hg1
  go_wp2_with fail
  go_at_call 157
  refine (aint 9 na x HX.out _ Hb1.out (.inr (.inr ⟨by decide, by decide, by decide, HN.out⟩)) (by have := Hxs.out; simp; omega) hB1).mono ?_
  rintro r w2 ⟨v2, rfl, hb2, hg2⟩
  have Hb2 := Lib.hid hb2
  have Hg2 := Lib.hid (Hg1.out.trans hg2)
  clear hb2 hg2
  obtain ⟨g, cap, hv2, -, -, hle, hcm⟩ := Hb2.out.slice
  have hl9 : (Ly.pad 9 na).length = 9 := Ly.pad_length (by decide) (by have := HN.out; omega)
  obtain ⟨M, hM⟩ : ∃ M, M = (xs ++ [dot] ++ Ly.pad 9 na).length := ⟨_, rfl⟩
  rw [← hM] at hv2 hle
  rw [List.length_append, List.length_append, hl9, List.length_singleton] at hM
  subst hv2
  have hM9 : (10 : Int) ≤ (M : Int) := by omega
  have hMb : (M : Int) ≤ 1000000 := by have := Hxs.out; omega
  have hMc : (M : Int) ≤ (cap : Int) := by omega
  have HM := Lib.hid hM
  clear hM hl9 hle
  by_cases hn : n < 9
  · have hn9 : (n : Int) < 9 := by omega
    have k1 : (0 : Int) ≤ (M : Int) - 9 + (n : Int) := by omega
    have k2 : (M : Int) - 9 + (n : Int) ≤ (cap : Int) := by omega
    have hlen9 : ((Ly.pad 9 na).take n).length = n := by rw [List.length_take, Ly.pad_length (by decide) HN.out]; omega
    have hm := HM.out
    have HL := Lib.hid (show M - 9 + n = xs.length + 1 + ((Ly.pad 9 na).take n).length by rw [hlen9]; omega)
    have hb3 := Hb2.out.take (k := xs.length + 1 + n) (by simp only [List.length_append, List.length_singleton]; rw [Ly.pad_length (by decide) HN.out]; omega)
    rw [take_frac, show xs.length + 1 + n = M - 9 + n by omega] at hb3
    have HBR := Lib.hid hb3
    have HG := Lib.hid (Hg2.out.same (v2 := .slice (some ⟨g, 0, none⟩) (M - 9 + n) cap) rfl)
    clear hn hlen9 hm hb3
    go_wp2_with fail
    go_loopw [0] (fun a wr => NanRel B xs ((Ly.pad 9 na).take n) dot v w a wr) (fun a _ => slLen a)
    case atStart => exact ⟨g, cap, M - 9 + n, _, rfl, HL.out, HBR.out, rfl, by rw [List.length_take, Ly.pad_length (by decide) HN.out]; omega, pad9_ge HN.out, HG.out⟩
    case round =>
      obtain ⟨g1, cap1, L, E, rfl, hL, hb, ht, h9, hd, hg⟩ := hrel
      obtain ⟨g2, cap2, hv2, -, -, hle2, -⟩ := hb.slice
      injection hv2 with e1 e2 e3
      subst e3
      rw [← e2] at hle2
      have hlx := Hxs.out
      have hL1 : (0 : Int) < (L : Int) := by omega
      have hLc : (L : Int) ≤ (cap1 : Int) := by omega
      have hLm : (L : Int) ≤ 1000000 := by
        have h2 := HE.out E L h9 hL
        omega
      have H9 := Lib.hid h9
      have k3 : (0 : Int) ≤ (L : Int) - 1 := by omega
      have k4 : (L : Int) - 1 ≤ (cap1 : Int) := by omega
      have HL2 := Lib.hid hL
      have Hb := Lib.hid hb
      have Ht := Lib.hid ht
      have Hd := Lib.hid hd
      have Hg := Lib.hid hg
      clear e1 e2 hle2 hlx
      rcases List.eq_nil_or_concat E with hE | ⟨E2, c, hE⟩
      · subst hE
        have hc := hb.last (k := L - 1) (by rw [hL]; simp)
        have fdd : ((dot.toNat : Int) == (dot.toNat : Int)) = true := by simp
        clear hb ht hd hg hL h9
        go_wp2
        go_ret
        have e5 : L - 1 = xs.length := by have := HL2.out; simp at this; omega
        have hb3 := Hb.out.take (k := xs.length) (by simp)
        rw [List.take_left] at hb3
        refine ⟨.slice (some ⟨g1, 0, none⟩) xs.length cap1, ?_, by rw [fracT_none dot Ht.out.symm, List.append_nil]; exact hb3, Hg.out.same rfl⟩
        show Ending.returned (.slice (some ⟨g1, 0, none⟩) (L - 1) cap1) = _
        rw [e5]
      · rw [List.concat_eq_append] at hE
        subst hE
        have eb : xs ++ dot :: (E2 ++ [c]) = (xs ++ dot :: E2) ++ [c] := by simp
        have hb' := hb
        rw [eb] at hb'
        have hc := hb'.last (k := L - 1) (by rw [hL]; simp; omega)
        have hc48 := hd c (by simp)
        clear hb'
        by_cases h48 : c = 48
        · subst h48
          have f48 : (((48 : UInt8).toNat : Int) == 48) = true := rfl
          have hc' : wr.cell? ⟨g1, L - 1, none⟩ = some (.int .u8 48) := hc
          clear hb ht hd hg hL hc hc48 h9
          go_wp2
          refine ⟨⟨g1, cap1, L - 1, E2, rfl, by have := HL2.out; simp at this; omega, ?_, by rw [← Ht.out, trim0_zero], by have := H9.out; simp at this; omega, fun c hc => Hd.out c (by simp [hc]), Hg.out.same rfl⟩, by simp [slLen]; omega⟩
          have hb3 := Hb.out.take (k := L - 1) (by have := HL2.out; simp at this ⊢; omega)
          rw [eb, show L - 1 = (xs ++ dot :: E2).length by have := HL2.out; simp at this ⊢; omega, List.take_left] at hb3
          rw [show L - 1 = (xs ++ dot :: E2).length by have := HL2.out; simp at this ⊢; omega]
          exact hb3
        · have f48 : ((c.toNat : Int) == 48) = false := bF h48
          have fdd : ((c.toNat : Int) == (dot.toNat : Int)) = false := by rw [beq_eq_false_iff_ne]; have := Hdot.out; omega
          have H48 := Lib.hid h48
          clear hb ht hd hg hL hc48 h48 h9
          go_wp2
          go_ret
          refine ⟨.slice (some ⟨g1, 0, none⟩) L cap1, rfl, ?_, Hg.out⟩
          rw [fracT_some dot (E := E2) (c := c) (by rw [← Ht.out, trim0_keep E2 H48.out])]
          exact Hb.out
  · have hn9 : (9 : Int) ≤ (n : Int) := by omega
    have hlen9 : (Ly.pad 9 na).take n = Ly.pad 9 na := List.take_of_length_le (by rw [Ly.pad_length (by decide) HN.out]; omega)
    have hm := HM.out
    have HL := Lib.hid (show M = xs.length + 1 + ((Ly.pad 9 na).take n).length by rw [hlen9, Ly.pad_length (by decide) HN.out]; omega)
    have hb3 := Hb2.out
    rw [List.append_assoc] at hb3
    have HBR := Lib.hid (show BR B (.slice (some ⟨g, 0, none⟩) M cap) (xs ++ dot :: (Ly.pad 9 na).take n) w2 by rw [hlen9]; exact hb3)
    have HG := Lib.hid Hg2.out
    clear hn hlen9 hm hb3
    go_wp2_with fail
    go_loopw [0] (fun a wr => NanRel B xs ((Ly.pad 9 na).take n) dot v w a wr) (fun a _ => slLen a)
    case atStart => exact ⟨g, cap, M, _, rfl, HL.out, HBR.out, rfl, by rw [List.length_take, Ly.pad_length (by decide) HN.out]; omega, pad9_ge HN.out, HG.out⟩
    case round =>
      obtain ⟨g1, cap1, L, E, rfl, hL, hb, ht, h9, hd, hg⟩ := hrel
      obtain ⟨g2, cap2, hv2, -, -, hle2, -⟩ := hb.slice
      injection hv2 with e1 e2 e3
      subst e3
      rw [← e2] at hle2
      have hlx := Hxs.out
      have hL1 : (0 : Int) < (L : Int) := by omega
      have hLc : (L : Int) ≤ (cap1 : Int) := by omega
      have hLm : (L : Int) ≤ 1000000 := by
        have h2 := HE.out E L h9 hL
        omega
      have H9 := Lib.hid h9
      have k3 : (0 : Int) ≤ (L : Int) - 1 := by omega
      have k4 : (L : Int) - 1 ≤ (cap1 : Int) := by omega
      have HL2 := Lib.hid hL
      have Hb := Lib.hid hb
      have Ht := Lib.hid ht
      have Hd := Lib.hid hd
      have Hg := Lib.hid hg
      clear e1 e2 hle2 hlx
      rcases List.eq_nil_or_concat E with hE | ⟨E2, c, hE⟩
      · subst hE
        have hc := hb.last (k := L - 1) (by rw [hL]; simp)
        have fdd : ((dot.toNat : Int) == (dot.toNat : Int)) = true := by simp
        clear hb ht hd hg hL h9
        go_wp2
        go_ret
        have e5 : L - 1 = xs.length := by have := HL2.out; simp at this; omega
        have hb3 := Hb.out.take (k := xs.length) (by simp)
        rw [List.take_left] at hb3
        refine ⟨.slice (some ⟨g1, 0, none⟩) xs.length cap1, ?_, by rw [fracT_none dot Ht.out.symm, List.append_nil]; exact hb3, Hg.out.same rfl⟩
        show Ending.returned (.slice (some ⟨g1, 0, none⟩) (L - 1) cap1) = _
        rw [e5]
      · rw [List.concat_eq_append] at hE
        subst hE
        have eb : xs ++ dot :: (E2 ++ [c]) = (xs ++ dot :: E2) ++ [c] := by simp
        have hb' := hb
        rw [eb] at hb'
        have hc := hb'.last (k := L - 1) (by rw [hL]; simp; omega)
        have hc48 := hd c (by simp)
        clear hb'
        by_cases h48 : c = 48
        · subst h48
          have f48 : (((48 : UInt8).toNat : Int) == 48) = true := rfl
          have hc' : wr.cell? ⟨g1, L - 1, none⟩ = some (.int .u8 48) := hc
          clear hb ht hd hg hL hc hc48 h9
          go_wp2
          refine ⟨⟨g1, cap1, L - 1, E2, rfl, by have := HL2.out; simp at this; omega, ?_, by rw [← Ht.out, trim0_zero], by have := H9.out; simp at this; omega, fun c hc => Hd.out c (by simp [hc]), Hg.out.same rfl⟩, by simp [slLen]; omega⟩
          have hb3 := Hb.out.take (k := L - 1) (by have := HL2.out; simp at this ⊢; omega)
          rw [eb, show L - 1 = (xs ++ dot :: E2).length by have := HL2.out; simp at this ⊢; omega, List.take_left] at hb3
          rw [show L - 1 = (xs ++ dot :: E2).length by have := HL2.out; simp at this ⊢; omega]
          exact hb3
        · have f48 : ((c.toNat : Int) == 48) = false := bF h48
          have fdd : ((c.toNat : Int) == (dot.toNat : Int)) = false := by rw [beq_eq_false_iff_ne]; have := Hdot.out; omega
          have H48 := Lib.hid h48
          clear hb ht hd hg hL hc48 h48 h9
          go_wp2
          go_ret
          refine ⟨.slice (some ⟨g1, 0, none⟩) L cap1, rfl, ?_, Hg.out⟩
          rw [fracT_some dot (E := E2) (c := c) (by rw [← Ht.out, trim0_keep E2 H48.out])]
          exact Hb.out

theorem nano34 {B : Nat} {v : Value} {xs : List UInt8} {std q : Int} {n : Nat} {dot : UInt8} (hf : Fr std 34 q n dot) (na : Nat) (x : Int) (hx : x = (na : Int)) (hna : na < 1000000000) (w : World) (h : BR B v xs w) (hxs : xs.length ≤ 890000) (hB : B ≤ w.heap.size) :
    Calls Tryz.prog 160 #[v, .int .i64 x, .int .i64 std] w (BrPost B v (xs ++ fracT dot n ((34 : Int) == 35) na) w) := nano_plain hf na x hx hna w h hxs hB
theorem nano35 {B : Nat} {v : Value} {xs : List UInt8} {std q : Int} {n : Nat} {dot : UInt8} (hf : Fr std 35 q n dot) (na : Nat) (x : Int) (hx : x = (na : Int)) (hna : na < 1000000000) (w : World) (h : BR B v xs w) (hxs : xs.length ≤ 890000) (hB : B ≤ w.heap.size) :
    Calls Tryz.prog 160 #[v, .int .i64 x, .int .i64 std] w (BrPost B v (xs ++ fracT dot n ((35 : Int) == 35) na) w) := by
  rcases Nat.eq_zero_or_pos na with h0 | h0
  · subst h0
    subst hx
    exact nano_zero hf w h
  · exact nano_trim hf na x hx hna h0 w h hxs hB
end Go.Proofs.YtchmhdmapknmfaaGreatDoor

/-
  The calendar of package time: the days split, the year, the month, the day, the day of the year, the day of the week, the clock.
-/
namespace Go.Proofs.YtchmhdmapknmfaaGreatDoor
open Go.RowKit Ly

theorem or_three (z : Nat) (h : z < 4294967296) : bits BinOp.or IntKind.u32 (z : Int) 3 = ((z / 4 * 4 + 3 : Nat) : Int) := by
  have e : z ||| 3 = z / 4 * 4 + 3 := by
    have h1 : (z ||| 3) % 2 = 1 := by
      rw [Nat.or_mod_two_eq_one]
      exact .inr rfl
    have h2 : (z ||| 3) / 2 = z / 2 ||| 1 := by rw [Nat.or_div_two]
    have h3 : (z / 2 ||| 1) % 2 = 1 := by
      rw [Nat.or_mod_two_eq_one]
      exact .inr rfl
    have h4 : (z / 2 ||| 1) / 2 = z / 2 / 2 := by
      rw [Nat.or_div_two]
      simp
    omega
  have hx : z ||| 3 < 2 ^ 32 := Nat.or_lt_two_pow (by omega) (by omega)
  have h1 : (BitVec.ofInt 32 (z : Int)).toNat = z := by
    rw [BitVec.ofInt_natCast, BitVec.toNat_ofNat]
    exact Nat.mod_eq_of_lt (by omega)
  have h2 : (BitVec.ofInt 32 3).toNat = 3 := rfl
  show IntKind.u32.wrap ((BitVec.ofInt 32 (z : Int) ||| BitVec.ofInt 32 3).toNat : Int) = _
  rw [BitVec.toNat_or, h1, h2, IntKind.wrap_u32, e]
  omega

theorem mul_lo_int {x : Int} (h0 : 0 ≤ x) (h : x < 146100) : 2939745 * x % 4294967296 / 2939745 = x % 1461 := by
  have h2 : 2939745 * x % 4294967296 = 149 * (x / 1461) + 2939745 * (x % 1461) := by omega
  rw [h2]
  have h3 : x / 1461 ≤ 99 := by omega
  generalize x % 1461 = r
  omega

theorem month_all : (List.range 366).all (fun a => bits BinOp.and IntKind.u32 (2141 * (a : Int) + 197913) 65535 == (((2141 * a + 197913) % 65536 : Nat) : Int)) = true := by decide +kernel
theorem month_bits {a : Nat} (h : a ≤ 365) : bits BinOp.and IntKind.u32 (2141 * (a : Int) + 197913) 65535 = (((2141 * a + 197913) % 65536 : Nat) : Int) := by
  have := List.all_eq_true.1 month_all a (List.mem_range.2 (by omega))
  exact beq_iff_eq.1 this

set_option maxRecDepth 100000 in
set_option maxHeartbeats 2000000 in
theorem mul32_any (y : Int) (h0 : 0 ≤ y) (h1 : y < 146100) (w : World) : Calls Tryz.prog 194 #[.int .u32 2939745, .int .u32 y] w fun r w' => ∃ p q : Int, r = .returned (.tuple #[.int .u32 p, .int .u32 q]) ∧ p = 2939745 * y / 4294967296 ∧ q = 2939745 * y % 4294967296 ∧ w = w' := by
  go_enter Tryz.func194, Tryz.ntmps194
  go_wp2
  go_ret2
  exact ⟨_, _, rfl, by omega, by omega, rfl⟩

set_option maxRecDepth 100000 in
set_option maxHeartbeats 2000000 in
theorem daysplit_any (n : Nat) (x : Int) (hx : x = 106751990353932 + (n : Int)) (hn : n < 2000000) (w : World) :
    Calls Tryz.prog 175 #[.int .u64 x] w fun r w' => ∃ c q a : Int, r = .returned (.tuple #[.int .u64 c, .int .i64 q, .int .i64 a]) ∧ c = 2922770224 + (nsC n : Int) ∧ q = (nsQ n : Int) ∧ a = (nsA n : Int) ∧ w = w' := by
  have hC : nsC n = (4 * n + 3) / 146097 := rfl
  have hD : nsD n = (4 * n + 3) % 146097 / 4 * 4 + 3 := rfl
  have hQ : nsQ n = nsD n / 1461 := rfl
  have hA : nsA n = nsD n % 1461 / 4 := rfl
  have m1 := mul_hi (nsD_lt n)
  have m2 := mul_lo (nsD_lt n)
  have hlt := nsD_lt n
  have hz : (4 * x + 3) % 146097 = (((4 * n + 3) % 146097 : Nat) : Int) := by omega
  have ho := or_three ((4 * n + 3) % 146097) (by omega)
  rw [← hz, ← hD] at ho
  obtain ⟨y, hy⟩ : ∃ y : Int, y = (nsD n : Int) := ⟨_, rfl⟩
  rw [← hy] at ho
  have y0 : 0 ≤ y := by omega
  have y1 : y < 146100 := by omega
  have x0 : 0 ≤ x := by omega
  have x1 : x < 200000000000000 := by omega
  have Hf := Lib.hid (And.intro hx (And.intro hy (And.intro hC (And.intro hQ (And.intro hA (And.intro m1 (And.intro m2 hz)))))))
  clear hC hD hQ hA m1 m2 hlt hz hy hx
  go_enter Tryz.func175, Tryz.ntmps175
  go_wp2_with (go_at_call 194; refine (mul32_any y y0 y1 _).mono ?_; rintro r w' ⟨p, q, rfl, hp, hq, rfl⟩)
  go_ret3
  obtain ⟨f1, f2, f3, f4, f5, f6, f7, f8⟩ := Hf.out
  have f9 := mul_lo_int y0 y1
  exact ⟨_, _, _, rfl, by omega, by omega, by rw [f9]; omega, rfl⟩

set_option maxRecDepth 100000 in
set_option maxHeartbeats 2000000 in
theorem ydsplit_any (a : Nat) (x : Int) (hx : x = (a : Int)) (ha : a ≤ 365) (w : World) :
    Calls Tryz.prog 176 #[.int .i64 x] w fun r w' => ∃ p q : Int, r = .returned (.tuple #[.int .i64 p, .int .i64 q]) ∧ p = (am a : Int) ∧ q = (md a : Int) ∧ w = w' := by
  have hb := month_bits ha
  rw [← hx] at hb
  obtain ⟨m, hm⟩ : ∃ m : Int, m = (((2141 * a + 197913) % 65536 : Nat) : Int) := ⟨_, rfl⟩
  rw [← hm] at hb
  have m0 : 0 ≤ m := by omega
  have m1 : m < 65536 := by omega
  have x0 : 0 ≤ x := by omega
  have x1 : x ≤ 365 := by omega
  have e1 : am a = (2141 * a + 197913) / 65536 := rfl
  have e2 : md a = 1 + (2141 * a + 197913) % 65536 / 2141 := rfl
  have Hf := Lib.hid (And.intro hx (And.intro hm (And.intro e1 e2)))
  clear hx hm e1 e2
  go_enter Tryz.func176, Tryz.ntmps176
  go_wp2
  go_ret2
  exact ⟨_, _, rfl, by have := Hf.out; omega, by have := Hf.out; omega, rfl⟩

set_option maxRecDepth 100000 in
set_option maxHeartbeats 2000000 in
theorem janFeb_any (a : Nat) (x : Int) (hx : x = (a : Int)) (w : World) : Calls Tryz.prog 177 #[.int .i64 x] w fun r w' => ∃ p : Int, r = .returned (.int .i64 p) ∧ p = (jf a : Int) ∧ w = w' := by
  by_cases h : 306 ≤ a
  · have e : jf a = 1 := if_pos h
    have h' : 306 ≤ x := by omega
    go_enter Tryz.func177, Tryz.ntmps177
    go_wp2
    go_ret
    exact ⟨_, rfl, by rw [e]; rfl, rfl⟩
  · have e : jf a = 0 := if_neg h
    have h' : x < 306 := by omega
    go_enter Tryz.func177, Tryz.ntmps177
    go_wp2
    go_ret
    exact ⟨_, rfl, by rw [e]; rfl, rfl⟩

set_option maxRecDepth 100000 in
set_option maxHeartbeats 2000000 in
theorem year_any (c q j : Int) (c0 : 2922770224 ≤ c) (c1 : c ≤ 2922790000) (q0 : 0 ≤ q) (q1 : q ≤ 99) (j0 : 0 ≤ j) (j1 : j ≤ 1) (w : World) :
    Calls Tryz.prog 178 #[.int .u64 c, .int .i64 q, .int .i64 j] w fun r w' => ∃ p : Int, r = .returned (.int .i64 p) ∧ p = (c - 2922770224) * 100 + q + j ∧ w = w' := by
  go_enter Tryz.func178, Tryz.ntmps178
  go_wp2
  go_ret
  exact ⟨_, rfl, by omega, rfl⟩

set_option maxRecDepth 100000 in
set_option maxHeartbeats 2000000 in
theorem month_any (m j : Int) (m0 : 0 ≤ m) (m1 : m ≤ 100) (j0 : 0 ≤ j) (j1 : j ≤ 1) (w : World) : Calls Tryz.prog 179 #[.int .i64 m, .int .i64 j] w fun r w' => ∃ p : Int, r = .returned (.int .i64 p) ∧ p = m - j * 12 ∧ w = w' := by
  go_enter Tryz.func179, Tryz.ntmps179
  go_wp2
  go_ret
  exact ⟨_, rfl, by omega, rfl⟩

set_option maxRecDepth 100000 in
set_option maxHeartbeats 2000000 in
theorem leap_any (c q : Int) (c0 : 0 ≤ c) (c1 : c ≤ 2922790000) (q0 : 0 ≤ q) (q1 : q ≤ 99) (w : World) :
    Calls Tryz.prog 186 #[.int .u64 c, .int .i64 q] w fun r w' => ∃ p : Int, r = .returned (.int .i64 p) ∧ (p = 1 ∧ q % 4 = 0 ∧ (q ≠ 0 ∨ c % 4 = 0) ∨ p = 0 ∧ ¬ (q % 4 = 0 ∧ (q ≠ 0 ∨ c % 4 = 0))) ∧ w = w' := by
  have b1 : bits BinOp.or IntKind.i64 0 0 = 0 := rfl
  have b2 : bits BinOp.or IntKind.i64 0 1 = 1 := rfl
  have b3 : bits BinOp.or IntKind.i64 1 0 = 1 := rfl
  have b4 : bits BinOp.or IntKind.i64 1 1 = 1 := rfl
  have b5 : bits BinOp.and IntKind.i64 0 0 = 0 := rfl
  have b6 : bits BinOp.and IntKind.i64 0 1 = 0 := rfl
  have b7 : bits BinOp.and IntKind.i64 1 0 = 0 := rfl
  have b8 : bits BinOp.and IntKind.i64 1 1 = 1 := rfl
  have A1 : q % 4 = 0 ∧ (q % 4 == 0) = true ∨ q % 4 ≠ 0 ∧ (q % 4 == 0) = false := by
    by_cases h : q % 4 = 0
    · exact .inl ⟨h, beq_iff_eq.2 h⟩
    · exact .inr ⟨h, beq_eq_false_iff_ne.2 h⟩
  have A2 : q = 0 ∧ (q != 0) = false ∨ q ≠ 0 ∧ (q != 0) = true := by
    by_cases h : q = 0
    · exact .inl ⟨h, by rw [h]; rfl⟩
    · exact .inr ⟨h, by simpa using h⟩
  have A3 : c % 4 = 0 ∧ (c % 4 == 0) = true ∨ c % 4 ≠ 0 ∧ (c % 4 == 0) = false := by
    by_cases h : c % 4 = 0
    · exact .inl ⟨h, beq_iff_eq.2 h⟩
    · exact .inr ⟨h, beq_eq_false_iff_ne.2 h⟩
  rcases A1 with ⟨p1, k1⟩ | ⟨p1, k1⟩ <;> rcases A2 with ⟨p2, k2⟩ | ⟨p2, k2⟩ <;> rcases A3 with ⟨p3, k3⟩ | ⟨p3, k3⟩
  all_goals
    have P := Lib.hid (And.intro p1 (And.intro p2 p3))
    clear p1 p2 p3
    go_enter Tryz.func186, Tryz.ntmps186
    go_wp2
    go_ret
    refine ⟨_, rfl, ?_, rfl⟩
    have := P.out
    omega

set_option maxRecDepth 100000 in
set_option maxHeartbeats 2000000 in
theorem yday_any (a j l : Int) (a0 : 0 ≤ a) (a1 : a ≤ 365) (hj : j = 0 ∨ j = 1) (hl : l = 0 ∨ l = 1) (w : World) :
    Calls Tryz.prog 185 #[.int .i64 a, .int .i64 j, .int .i64 l] w fun r w' => ∃ p : Int, r = .returned (.int .i64 p) ∧ (j = 0 ∧ p = a + 60 + l ∨ j = 1 ∧ p = a + 60 - 365) ∧ w = w' := by
  have b5 : bits BinOp.andNot IntKind.i64 0 0 = 0 := rfl
  have b6 : bits BinOp.andNot IntKind.i64 0 1 = 0 := rfl
  have b7 : bits BinOp.andNot IntKind.i64 1 0 = 1 := rfl
  have b8 : bits BinOp.andNot IntKind.i64 1 1 = 0 := rfl
  rcases hj with rfl | rfl <;> rcases hl with rfl | rfl
  all_goals
    go_enter Tryz.func185, Tryz.ntmps185
    go_wp2
    go_ret
    exact ⟨_, rfl, by first | exact .inl ⟨rfl, by omega⟩ | exact .inr ⟨rfl, by omega⟩ | (simp; done) | (simp; omega), rfl⟩

set_option maxRecDepth 100000 in
set_option maxHeartbeats 2000000 in
theorem date_any (n : Nat) (x : Int) (hx : x = 106751990353932 + (n : Int)) (hn : n < 2000000) (w : World) :
    Calls Tryz.prog 156 #[.int .u64 x] w fun r w' => ∃ y m d : Int, r = .returned (.tuple #[.int .i64 y, .int .i64 m, .int .i64 d]) ∧ y = (yr n : Int) ∧ m = ((am (nsA n) - 12 * jf (nsA n) : Nat) : Int) ∧ d = (md (nsA n) : Int) ∧ w = w' := by
  obtain ⟨s1, s2, s3, -⟩ := ns_split n
  have hC : nsC n = (4 * n + 3) / 146097 := rfl
  have hy : yr n = nsC n * 100 + nsQ n + jf (nsA n) := rfl
  have ha : am (nsA n) = (2141 * nsA n + 197913) / 65536 := rfl
  have hj : jf (nsA n) = 0 ∧ nsA n < 306 ∨ jf (nsA n) = 1 ∧ 306 ≤ nsA n := by
    unfold jf
    split <;> omega
  have Hf := Lib.hid (And.intro hy (And.intro ha hj))
  have Hs := Lib.hid (And.intro s2 (And.intro s3 hC))
  have Hx := Lib.hid hx
  have Hn := Lib.hid hn
  clear s1 s2 s3 hC hy ha hj hx hn
  go_enter Tryz.func156, Tryz.ntmps156
  go_wp2_with (
    go_at_call 175; refine (daysplit_any n x Hx.out Hn.out _).mono ?_; rintro r w' ⟨c, q, a, rfl, hc, hq, ha, rfl⟩
    have c0 : 2922770224 ≤ c := by omega
    have c1 : c ≤ 2922790000 := by have := Hs.out; have := Hn.out; omega
    have q0 : 0 ≤ q := by omega
    have q1 : q ≤ 99 := by have := Hs.out; omega
    have HC := Lib.hid hc
    have HQ := Lib.hid hq
    have HA := Lib.hid ha
    have a0 : 0 ≤ a := by omega
    have a1 : a ≤ 365 := by have := Hs.out; omega
    clear hc hq ha)
  go_wp2_with (
    go_at_call 176; refine (ydsplit_any (nsA n) a HA.out Hs.out.2.1 _).mono ?_; rintro r w' ⟨p, d, rfl, hp, hd, rfl⟩
    have p0 : 0 ≤ p := by omega
    have p1 : p ≤ 100 := by have := Hs.out; have := Hf.out; omega
    have HP := Lib.hid hp
    have HD := Lib.hid hd
    clear hp hd)
  go_wp2_with (
    go_at_call 177; refine (janFeb_any (nsA n) a HA.out _).mono ?_; rintro r w' ⟨j, rfl, hj, rfl⟩
    have j0 : 0 ≤ j := by omega
    have j1 : j ≤ 1 := by have := Hf.out; omega
    have HJ := Lib.hid hj
    clear hj)
  go_wp2_with (
    go_at_call 178; refine (year_any c q j c0 c1 q0 q1 j0 j1 _).mono ?_; rintro r w' ⟨y, rfl, hy, rfl⟩
    have HY := Lib.hid hy
    clear hy)
  go_wp2_with (
    go_at_call 179; refine (month_any p j p0 p1 j0 j1 _).mono ?_; rintro r w' ⟨m, rfl, hm, rfl⟩
    have HM := Lib.hid hm
    clear hm)
  go_wp2
  go_ret3
  refine ⟨_, _, _, rfl, ?_, ?_, HD.out, rfl⟩
  · have h1 := HY.out; have h2 := HC.out; have h3 := HQ.out; have h4 := HJ.out; have h5 := Hf.out
    omega
  · have h1 := HM.out; have h2 := HP.out; have h4 := HJ.out; have h5 := Hf.out
    omega

set_option maxRecDepth 100000 in
set_option maxHeartbeats 2000000 in
theorem yearYday_any (rd : Nat) (x : Int) (hx : x = 106751990353932 + ((rd + 306 : Nat) : Int)) (hr : rd < 1900000) (hc0 : 1 ≤ nsC (rd + 306)) (w : World) :
    Calls Tryz.prog 163 #[.int .u64 x] w fun r w' => ∃ y d : Int, r = .returned (.tuple #[.int .i64 y, .int .i64 d]) ∧ d = ((rd - zd (yr (rd + 306)) + 1 : Nat) : Int) ∧ w = w' := by
  obtain ⟨s1, s2, s3, -⟩ := ns_split (rd + 306)
  have hC : nsC (rd + 306) = (4 * (rd + 306) + 3) / 146097 := rfl
  have hj : jf (nsA (rd + 306)) = 0 ∧ nsA (rd + 306) < 306 ∨ jf (nsA (rd + 306)) = 1 ∧ 306 ≤ nsA (rd + 306) := by
    unfold jf
    split <;> omega
  have Hf := Lib.hid hj
  have Hs := Lib.hid (And.intro s2 (And.intro s3 hC))
  have Hx := Lib.hid hx
  have Hn := Lib.hid (show rd + 306 < 2000000 by omega)
  have Hc0 := Lib.hid hc0
  clear s1 s2 s3 hC hj hx hr hc0
  go_enter Tryz.func163, Tryz.ntmps163
  go_wp2_with (
    go_at_call 175; refine (daysplit_any (rd + 306) x Hx.out Hn.out _).mono ?_; rintro r w' ⟨c, q, a, rfl, hc, hq, ha, rfl⟩
    have c0 : 2922770224 ≤ c := by omega
    have c1 : c ≤ 2922790000 := by have := Hs.out; have := Hn.out; omega
    have q0 : 0 ≤ q := by omega
    have q1 : q ≤ 99 := by have := Hs.out; omega
    have HC := Lib.hid hc
    have HQ := Lib.hid hq
    have HA := Lib.hid ha
    have a0 : 0 ≤ a := by omega
    have a1 : a ≤ 365 := by have := Hs.out; omega
    have c2 : 0 ≤ c := by omega
    clear hc hq ha)
  go_wp2_with (
    go_at_call 177; refine (janFeb_any (nsA (rd + 306)) a HA.out _).mono ?_; rintro r w' ⟨j, rfl, hj, rfl⟩
    have j0 : 0 ≤ j := by omega
    have j1 : j ≤ 1 := by have := Hf.out; omega
    have HJ := Lib.hid hj
    clear hj)
  go_wp2_with (
    go_at_call 178; refine (year_any c q j c0 c1 q0 q1 j0 j1 _).mono ?_; rintro r w' ⟨y, rfl, hy, rfl⟩
    have HY := Lib.hid hy
    clear hy)
  go_wp2_with (
    go_at_call 186; refine (leap_any c q c2 c1 q0 q1 _).mono ?_; rintro r w' ⟨l, rfl, hl, rfl⟩
    have HL := Lib.hid hl
    have Hl := Lib.hid (show l = 0 ∨ l = 1 by omega)
    have Hj := Lib.hid (show j = 0 ∨ j = 1 by omega)
    clear hl)
  go_wp2_with (
    go_at_call 185; refine (yday_any a j l a0 a1 Hj.out Hl.out _).mono ?_; rintro r w' ⟨d, rfl, hd, rfl⟩
    have HD := Lib.hid hd
    clear hd)
  go_wp2
  go_ret2
  refine ⟨_, _, rfl, ?_, rfl⟩
  have h1 := HC.out; have h2 := HQ.out; have h3 := HA.out; have h4 := HJ.out; have h5 := HL.out; have h6 := HD.out
  rcases Hf.out with ⟨g1, g2⟩ | ⟨g1, g2⟩
  · have g3 := yday_low Hc0.out g2
    rw [g1] at h4
    by_cases g4 : nsQ (rd + 306) % 4 = 0 ∧ (nsQ (rd + 306) ≠ 0 ∨ nsC (rd + 306) % 4 = 0)
    · rw [if_pos g4] at g3
      omega
    · rw [if_neg g4] at g3
      omega
  · have g3 := yday_high Hc0.out g2
    rw [g1] at h4
    omega

set_option maxRecDepth 100000 in
set_option maxHeartbeats 2000000 in
theorem weekday_any (n : Nat) (x : Int) (hx : x = 106751990353932 + (n : Int)) (hn : n < 2000000) (w : World) :
    Calls Tryz.prog 165 #[.int .u64 x] w fun r w' => ∃ d : Int, r = .returned (.int .i64 d) ∧ d = (((n + 3) % 7 : Nat) : Int) ∧ w = w' := by
  have x0 : 0 ≤ x := by omega
  have x1 : x < 200000000000000 := by omega
  have Hx := Lib.hid hx
  clear hx hn
  go_enter Tryz.func165, Tryz.ntmps165
  go_wp2
  go_ret
  exact ⟨_, rfl, by have := Hx.out; omega, rfl⟩

set_option maxRecDepth 100000 in
set_option maxHeartbeats 2000000 in
theorem absDays_any (t : Nat) (x : Int) (hx : x = 9223371966606163200 + (t : Int)) (ht : t < 100000000000) (w : World) :
    Calls Tryz.prog 155 #[.int .u64 x] w fun r w' => ∃ d : Int, r = .returned (.int .u64 d) ∧ d = 106751990353932 + ((t / 86400 + 306 : Nat) : Int) ∧ w = w' := by
  have x0 : 0 ≤ x := by omega
  have x1 : x < 18446744073709551615 := by omega
  have Hx := Lib.hid hx
  clear hx ht
  go_enter Tryz.func155, Tryz.ntmps155
  go_wp2
  go_ret
  exact ⟨_, rfl, by have := Hx.out; omega, rfl⟩

set_option maxRecDepth 100000 in
set_option maxHeartbeats 2000000 in
theorem clock_any (t : Nat) (x : Int) (hx : x = 9223371966606163200 + (t : Int)) (ht : t < 100000000000) (w : World) :
    Calls Tryz.prog 158 #[.int .u64 x] w fun r w' => ∃ h m s : Int, r = .returned (.tuple #[.int .i64 h, .int .i64 m, .int .i64 s]) ∧ h = ((t % 86400 / 3600 : Nat) : Int) ∧ m = ((t % 86400 % 3600 / 60 : Nat) : Int) ∧ s = ((t % 86400 % 60 : Nat) : Int) ∧ w = w' := by
  have x0 : 0 ≤ x := by omega
  have x1 : x < 18446744073709551615 := by omega
  have Hx := Lib.hid hx
  clear hx ht
  go_enter Tryz.func158, Tryz.ntmps158
  go_wp2
  go_ret3
  exact ⟨_, _, _, rfl, by have := Hx.out; omega, by have := Hx.out; omega, by have := Hx.out; omega, rfl⟩
end Go.Proofs.YtchmhdmapknmfaaGreatDoor

/-
  The names of the months and of the days of the week; the parts of a Time.
-/
namespace Go.Proofs.YtchmhdmapknmfaaGreatDoor
open Go.RowKit Ly

theorem isEmpty_no {s : ByteArray} (h : 0 < s.size) : s.toList.isEmpty = false := by
  have e : s.toList = bts s := Lib.toList_data s
  rw [e]
  cases hb : bts s with
  | nil =>
    have := bts_length s
    rw [hb] at this
    simp at this
    omega
  | cons a l => rfl
theorem isEmpty_yes {s : ByteArray} (h : s.size = 0) : s.toList.isEmpty = true := by
  have e : s.toList = bts s := Lib.toList_data s
  have e2 : bts s = [] := List.eq_nil_of_length_eq_zero (by rw [bts_length]; exact h)
  rw [e, e2]
  rfl
theorem month_ge {n : Nat} (h1 : 1 ≤ n) (h2 : n ≤ 12) : 3 ≤ (monthNames.getD (n - 1) []).length := by
  have t : (List.range 12).all (fun i => decide (3 ≤ (monthNames.getD i []).length)) = true := by decide
  have := List.all_eq_true.1 t (n - 1) (List.mem_range.2 (by omega))
  simpa using this
theorem day_ge {n : Nat} (h : n < 7) : 3 ≤ (dayNames.getD n []).length := by
  have t : (List.range 7).all (fun i => decide (3 ≤ (dayNames.getD i []).length)) = true := by decide
  have := List.all_eq_true.1 t n (List.mem_range.2 h)
  simpa using this

/-- A package-level slice of names. -/
def NameTab (g : Nat) (L : List (List UInt8)) (B : Nat) (w : World) : Prop :=
  ∃ (q o c : Nat), w.cell? ⟨g, 0, none⟩ = some (.slice (some ⟨q, o, none⟩) L.length c) ∧ g < B ∧ q < B ∧ ∀ i (h : i < L.length), w.cell? ⟨q, o + i, none⟩ = some (.string ⟨L[i].toArray⟩)

theorem NameTab.below {g B : Nat} {L : List (List UInt8)} {w w' : World} (h : NameTab g L B w) (hb : Below B w w') : NameTab g L B w' := by
  obtain ⟨q, o, c, h1, h2, h3, h4⟩ := h
  exact ⟨q, o, c, by rw [hb.cell h2]; exact h1, h2, h3, fun i hi => by rw [hb.cell h3]; exact h4 i hi⟩

set_option maxRecDepth 100000 in
set_option maxHeartbeats 1000000 in
theorem monthString_any {B n : Nat} (x : Int) (hx : x = (n : Int)) (h1 : 1 ≤ n) (h2 : n ≤ 12) (w : World) (hT : NameTab 5 monthNames B w) :
    Calls Tryz.prog 164 #[.int .i64 x] w fun r w' => ∃ s : ByteArray, r = .returned (.string s) ∧ bts s = monthNames.getD (n - 1) [] ∧ w = w' := by
  obtain ⟨q, o, c, t1, -, -, t4⟩ := hT
  have hl : n - 1 < monthNames.length := by show n - 1 < 12; omega
  have t5 := t4 (n - 1) hl
  have t6 : bts ⟨(monthNames[n - 1]).toArray⟩ = monthNames.getD (n - 1) [] := by
    rw [List.getD_eq_getElem?_getD, List.getElem?_eq_getElem hl]
    rfl
  obtain ⟨s, hs⟩ : ∃ s : ByteArray, s = ⟨(monthNames[n - 1]).toArray⟩ := ⟨_, rfl⟩
  rw [← hs] at t5 t6
  have T6 := Lib.hid t6
  obtain ⟨k, hk⟩ : ∃ k, k = n - 1 := ⟨_, rfl⟩
  rw [← hk] at t5
  have hxk : x = (k : Int) + 1 := by omega
  have hk12 : k < 12 := by omega
  have hlen : monthNames.length = 12 := rfl
  rw [hlen] at t1
  subst hxk
  have a1 : (1 : Int) ≤ (k : Int) + 1 := by omega
  have a2 : (k : Int) + 1 ≤ 12 := by omega
  clear hs t4 t6 hx h1 h2 hl hk hlen
  go_enter Tryz.func164, Tryz.ntmps164
  go_wp2
  go_ret
  exact ⟨s, rfl, T6.out, rfl⟩

set_option maxRecDepth 100000 in
set_option maxHeartbeats 1000000 in
theorem dayString_any {B n : Nat} (x : Int) (hx : x = (n : Int)) (h2 : n < 7) (w : World) (hT : NameTab 6 dayNames B w) :
    Calls Tryz.prog 166 #[.int .i64 x] w fun r w' => ∃ s : ByteArray, r = .returned (.string s) ∧ bts s = dayNames.getD n [] ∧ w = w' := by
  obtain ⟨q, o, c, t1, -, -, t4⟩ := hT
  have hl : n < dayNames.length := h2
  have t5 := t4 n hl
  have t6 : bts ⟨(dayNames[n]).toArray⟩ = dayNames.getD n [] := by
    rw [List.getD_eq_getElem?_getD, List.getElem?_eq_getElem hl]
    rfl
  obtain ⟨s, hs⟩ : ∃ s : ByteArray, s = ⟨(dayNames[n]).toArray⟩ := ⟨_, rfl⟩
  rw [← hs] at t5 t6
  have T6 := Lib.hid t6
  have hlen : dayNames.length = 7 := rfl
  rw [hlen] at t1
  subst hx
  have a2 : (n : Int) ≤ 6 := by omega
  clear hs t4 t6 hl hlen
  go_enter Tryz.func166, Tryz.ntmps166
  go_wp2
  go_ret
  exact ⟨s, rfl, T6.out, rfl⟩

/-- A Time: the seconds since the year 1, the nanoseconds, the zone's name and offset. -/
def tmV (e na : Int) (Z : ByteArray) (off : Int) : Value := .agg #[.int .i64 e, .int .i32 na, .string Z, .int .i64 off]

set_option maxRecDepth 100000 in
set_option maxHeartbeats 1000000 in
theorem nsec_any (e na off : Int) (Z : ByteArray) (w : World) : Calls Tryz.prog 147 #[tmV e na Z off] w fun r w' => r = .returned (.int .i32 na) ∧ Below w.heap.size w w' := by
  unfold tmV
  go_enter Tryz.func147, Tryz.ntmps147
  go_wp2
  go_ret
  exact ⟨rfl, (Below.refl _ w).alloc (Nat.le_refl _) _⟩

set_option maxRecDepth 100000 in
set_option maxHeartbeats 1000000 in
theorem nano_any (e na off : Int) (Z : ByteArray) (h0 : 0 ≤ na) (h1 : na < 1000000000) (w : World) : Calls Tryz.prog 161 #[tmV e na Z off] w fun r w' => r = .returned (.int .i64 na) ∧ Below w.heap.size w w' := by
  unfold tmV
  go_enter Tryz.func161, Tryz.ntmps161
  go_wp2_with (
    go_at_call 147; refine (nsec_any e na off Z _).mono ?_; rintro r w' ⟨rfl, hb⟩
    have Hb := Lib.hid (((Below.refl w.heap.size w).alloc (Nat.le_refl _) _).trans (hb.mono (by simp)))
    clear hb)
  go_wp2
  go_ret
  exact ⟨rfl, Hb.out⟩
end Go.Proofs.YtchmhdmapknmfaaGreatDoor
