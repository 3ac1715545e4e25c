/-
  Joined: Gb Gd Ia Gc Ib Ic Id. (Joined by merge.py out of several texts.)
-/
import Derived.Test.YtchmhdmapknmfaaGreatDoorGa
import Derived.Test.YtchmhdmapknmfaaGreatDoorDa
import Derived.Test.YtchmhdmapknmfaaGreatDoorDc
import Derived.Test.YtchmhdmapknmfaaGreatDoorBm
import Derived.Lib.AppendStr
import Derived.Lib.AppendZerosOnto
import Derived.Test.YtchmhdmapknmfaaGreatDoorEa

/-
  Plain: the days of the calendar: the year, the month and the day as package time reckons them, and as they are counted.
-/
namespace Go.Proofs.YtchmhdmapknmfaaGreatDoor.Ly

/-- Days from the beginning of the year 1 to the beginning of a year. -/
def zd (y : Nat) : Nat := 365 * (y - 1) + (y - 1) / 4 - (y - 1) / 100 + (y - 1) / 400
def lp (y : Nat) : Bool := zd (y + 1) - zd y == 366
/-- How many days a month has. -/
def mlen (l : Bool) (m : Nat) : Nat := if m = 4 ∨ m = 6 ∨ m = 9 ∨ m = 11 then 30 else if m = 2 then (if l then 29 else 28) else 31
/-- The month and the day, from the day of the year. -/
def mlp (l : Bool) : Nat → Nat → Nat → Nat × Nat
  | 0, m, d => (m, d + 1)
  | k + 1, m, d => if mlen l m ≤ d then mlp l k (m + 1) (d - mlen l m) else (m, d + 1)

/-- The century, the year of it, the day of the year, of years that begin with March. -/
def nsC (n : Nat) : Nat := (4 * n + 3) / 146097
def nsD (n : Nat) : Nat := (4 * n + 3) % 146097 / 4 * 4 + 3
def nsQ (n : Nat) : Nat := nsD n / 1461
def nsA (n : Nat) : Nat := nsD n % 1461 / 4
def am (a : Nat) : Nat := (2141 * a + 197913) / 65536
def md (a : Nat) : Nat := 1 + (2141 * a + 197913) % 65536 / 2141
def jf (a : Nat) : Nat := if 306 ≤ a then 1 else 0
def yr (n : Nat) : Nat := nsC n * 100 + nsQ n + jf (nsA n)

theorem nsD_lt (n : Nat) : nsD n < 146100 := by unfold nsD; omega

theorem mul_hi {x : Nat} (h : x < 146100) : 2939745 * x / 4294967296 = x / 1461 := by omega
theorem mul_lo {x : Nat} (h : x < 146100) : 2939745 * x % 4294967296 / 2939745 = x % 1461 := by
  have h1 := mul_hi h
  have h2 : 2939745 * x % 4294967296 = 149 * (x / 1461) + 2939745 * (x % 1461) := by omega
  rw [h2]
  have h3 : x / 1461 ≤ 99 := by omega
  generalize x % 1461 = r
  omega

theorem ns_split (n : Nat) : n = 36524 * nsC n + nsC n / 4 + 365 * nsQ n + nsQ n / 4 + nsA n ∧ nsQ n ≤ 99 ∧ nsA n ≤ 365 ∧ (nsA n = 365 → nsQ n % 4 = 3 ∧ (nsQ n ≠ 99 ∨ nsC n % 4 = 3)) := by
  unfold nsQ nsA
  have hC : nsC n = (4 * n + 3) / 146097 := rfl
  have hD : nsD n = (4 * n + 3) % 146097 / 4 * 4 + 3 := rfl
  generalize nsC n = c at *
  generalize nsD n = e at *
  obtain ⟨x, hx⟩ : ∃ x, x = (4 * n + 3) % 146097 / 4 := ⟨_, rfl⟩
  have h1 : n = 36524 * c + c / 4 + x := by omega
  have h2 : x ≤ 36524 := by omega
  have h3 : x = 36524 → c % 4 = 3 := by omega
  have h4 : e = 4 * x + 3 := by omega
  clear hC hD hx
  subst h4
  refine ⟨by omega, by omega, by omega, fun h => ⟨by omega, ?_⟩⟩
  by_cases hq : (4 * x + 3) / 1461 = 99
  · exact .inr (h3 (by omega))
  · exact .inl hq

/-- The table of the months: the month and the day behind March. -/
def mtest (a : Nat) : Bool :=
  (if 306 ≤ a then mlp false 12 1 (a - 306) == (am a - 12, md a) && mlp true 12 1 (a - 306) == (am a - 12, md a)
   else mlp false 12 1 (a + 59) == (am a, md a) && mlp true 12 1 (a + 60) == (am a, md a))
theorem mtest_all : (List.range 366).all (fun a => mtest a || a == 365) = true := by decide +kernel
theorem mtest_last : mlp true 12 1 59 = (am 365 - 12, md 365) := by decide +kernel

theorem yr_bounds (rd : Nat) (h : 1 ≤ nsC (rd + 306)) : zd (yr (rd + 306)) ≤ rd ∧ rd < zd (yr (rd + 306) + 1) ∧
    mlp (lp (yr (rd + 306))) 12 1 (rd - zd (yr (rd + 306))) = (am (nsA (rd + 306)) - 12 * jf (nsA (rd + 306)), md (nsA (rd + 306))) := by
  obtain ⟨h1, h2, h3, h4⟩ := ns_split (rd + 306)
  unfold yr
  generalize nsC (rd + 306) = c at *
  generalize nsQ (rd + 306) = q at *
  generalize nsA (rd + 306) = a at *
  have ht : a ≠ 365 → mtest a = true := by
    intro hne
    have := List.all_eq_true.1 mtest_all a (List.mem_range.2 (by omega))
    simpa [hne] using this
  by_cases hj : 306 ≤ a
  · have ej : jf a = 1 := by unfold jf; rw [if_pos hj]
    rw [ej]
    have z1 : zd (c * 100 + q + 1) = 36524 * c + c / 4 + 365 * q + q / 4 := by
      unfold zd
      omega
    have z2 : zd (c * 100 + q + 1) + 365 ≤ zd (c * 100 + q + 1 + 1) := by
      unfold zd
      omega
    have z3 : a = 365 → zd (c * 100 + q + 1 + 1) = zd (c * 100 + q + 1) + 366 := by
      intro ha
      have := h4 ha
      unfold zd
      omega
    refine ⟨by omega, ?_, ?_⟩
    · by_cases ha : a = 365
      · have := z3 ha
        omega
      · omega
    · have e : rd - zd (c * 100 + q + 1) = a - 306 := by omega
      rw [e]
      by_cases ha : a = 365
      · have hl : lp (c * 100 + q + 1) = true := by
          unfold lp
          rw [z3 ha, Nat.add_sub_cancel_left]
          rfl
        rw [hl, ha]
        exact mtest_last
      · have := ht ha
        unfold mtest at this
        rw [if_pos hj, Bool.and_eq_true] at this
        have e1 := beq_iff_eq.1 this.1
        have e2 := beq_iff_eq.1 this.2
        rw [Nat.mul_one]
        cases lp (c * 100 + q + 1)
        · exact e1
        · exact e2
  · have ej : jf a = 0 := by unfold jf; rw [if_neg hj]
    rw [ej]
    have hp : 1 ≤ c * 100 + q := by omega
    have z1 : zd (c * 100 + q + 1) = 36524 * c + c / 4 + 365 * q + q / 4 := by
      unfold zd
      omega
    have z2 : zd (c * 100 + q) + 365 ≤ zd (c * 100 + q + 1) ∧ zd (c * 100 + q + 1) ≤ zd (c * 100 + q) + 366 := by
      unfold zd
      omega
    rw [Nat.add_zero, Nat.mul_zero, Nat.sub_zero]
    refine ⟨by omega, by omega, ?_⟩
    have := ht (by omega)
    unfold mtest at this
    rw [if_neg hj, Bool.and_eq_true] at this
    have e1 := beq_iff_eq.1 this.1
    have e2 := beq_iff_eq.1 this.2
    by_cases hl : zd (c * 100 + q + 1) = zd (c * 100 + q) + 366
    · have hl' : lp (c * 100 + q) = true := by
        unfold lp
        rw [hl, Nat.add_sub_cancel_left]
        rfl
      rw [hl', show rd - zd (c * 100 + q) = a + 60 by omega]
      exact e2
    · have hl' : lp (c * 100 + q) = false := by
        unfold lp
        rw [beq_eq_false_iff_ne]
        omega
      rw [hl', show rd - zd (c * 100 + q) = a + 59 by omega]
      exact e1
end Go.Proofs.YtchmhdmapknmfaaGreatDoor.Ly

/-
  Plain: what each part of a layout stands for at a moment.
-/
namespace Go.Proofs.YtchmhdmapknmfaaGreatDoor.Ly

def monthNames : List (List UInt8) := [[74, 97, 110, 117, 97, 114, 121], [70, 101, 98, 114, 117, 97, 114, 121], [77, 97, 114, 99, 104], [65, 112, 114, 105, 108], [77, 97, 121], [74, 117, 110, 101], [74, 117, 108, 121], [65, 117, 103, 117, 115, 116], [83, 101, 112, 116, 101, 109, 98, 101, 114], [79, 99, 116, 111, 98, 101, 114], [78, 111, 118, 101, 109, 98, 101, 114], [68, 101, 99, 101, 109, 98, 101, 114]]
def dayNames : List (List UInt8) := [[83, 117, 110, 100, 97, 121], [77, 111, 110, 100, 97, 121], [84, 117, 101, 115, 100, 97, 121], [87, 101, 100, 110, 101, 115, 100, 97, 121], [84, 104, 117, 114, 115, 100, 97, 121], [70, 114, 105, 100, 97, 121], [83, 97, 116, 117, 114, 100, 97, 121]]

/-- A number of so many digits at least. -/
def pad (w n : Nat) : List UInt8 := List.replicate (w - (dn n []).length) 48 ++ dn n []
/-- A number with blanks ahead of it. -/
def blank (w n : Nat) : List UInt8 := List.replicate (w - (dn n []).length) 32 ++ dn n []

/-- A moment: what the calendar and the clock say, the parts of a second, the zone. -/
structure Mo where
  y : Nat
  mo : Nat
  d : Nat
  yd : Nat
  wd : Nat
  h : Nat
  mi : Nat
  s : Nat
  na : Nat
  off : Int
  zone : List UInt8

def half (h : Nat) : Nat := if h % 12 = 0 then 12 else h % 12

/-- How far the clocks are ahead: with a colon, with minutes, with seconds. -/
def zn (off : Int) (colon mins secs : Bool) : List UInt8 :=
  (if off < 0 then 45 else 43) :: (pad 2 (off.natAbs / 3600) ++ (if colon then [58] else []) ++ (if mins then pad 2 (off.natAbs / 60 % 60) else []) ++
    (if secs then (if colon then [58] else []) ++ pad 2 (off.natAbs % 60) else []))

/-- Noughts at the end left out. -/
def trim0 (l : List UInt8) : List UInt8 := (l.reverse.dropWhile (· == 48)).reverse

/-- Parts of a second: the separator, how many digits, are noughts at the end left out? -/
def fracT (sep : UInt8) (n : Nat) (trim : Bool) (na : Nat) : List UInt8 :=
  let ds := (pad 9 na).take n
  let ds := if trim then trim0 ds else ds
  if ds = [] then [] else sep :: ds

/-- What a code stands for. -/
def txt (m : Mo) (std : Int) : List UInt8 :=
  if std = 257 then monthNames.getD (m.mo - 1) []
  else if std = 258 then (monthNames.getD (m.mo - 1) []).take 3
  else if std = 259 then pad 0 m.mo
  else if std = 260 then pad 2 m.mo
  else if std = 261 then dayNames.getD m.wd []
  else if std = 262 then (dayNames.getD m.wd []).take 3
  else if std = 263 then pad 0 m.d
  else if std = 264 then blank 2 m.d
  else if std = 265 then pad 2 m.d
  else if std = 522 then blank 3 m.yd
  else if std = 523 then pad 3 m.yd
  else if std = 1036 then pad 2 m.h
  else if std = 1037 then pad 0 (half m.h)
  else if std = 1038 then pad 2 (half m.h)
  else if std = 1039 then pad 0 m.mi
  else if std = 1040 then pad 2 m.mi
  else if std = 1041 then pad 0 m.s
  else if std = 1042 then pad 2 m.s
  else if std = 275 then pad 4 m.y
  else if std = 276 then pad 2 (m.y % 100)
  else if std = 1045 then (if 12 ≤ m.h then [80, 77] else [65, 77])
  else if std = 1046 then (if 12 ≤ m.h then [112, 109] else [97, 109])
  else if std = 23 then (if m.zone = [] then zn m.off false true false else m.zone)
  else if std = 24 then (if m.off = 0 then [90] else zn m.off false true false)
  else if std = 25 then (if m.off = 0 then [90] else zn m.off false true true)
  else if std = 26 then (if m.off = 0 then [90] else zn m.off false false false)
  else if std = 27 then (if m.off = 0 then [90] else zn m.off true true false)
  else if std = 28 then (if m.off = 0 then [90] else zn m.off true true true)
  else if std = 29 then zn m.off false true false
  else if std = 30 then zn m.off false true true
  else if std = 31 then zn m.off false false false
  else if std = 32 then zn m.off true true false
  else if std = 33 then zn m.off true true true
  else fracT (if 268435456 ≤ std then 44 else 46) ((std.toNat / 65536) % 4096) (std.toNat % 65536 == 35) m.na
end Go.Proofs.YtchmhdmapknmfaaGreatDoor.Ly

/-
  Plain: a number written with so many digits.
-/
namespace Go.Proofs.YtchmhdmapknmfaaGreatDoor
open Ly

/-- The last digits of a number, so many. -/
def digs : Nat → Nat → List UInt8 → List UInt8
  | 0, _, out => out
  | k + 1, n, out => digs k (n / 10) (dg n :: out)

theorem dl_out (n : Nat) (out : List UInt8) : dl n out = dl n [] ++ out := by
  induction n using Nat.strongRecOn generalizing out with
  | _ n ih =>
    by_cases h : n = 0
    · subst h
      rw [dl_zero, dl_zero]
      rfl
    · rw [dl_step (by omega), dl_step (by omega) [], ih (n / 10) (by omega), ih (n / 10) (by omega) [dg n], List.append_assoc]
      rfl

def nd (n : Nat) : Nat := (dl n []).length

theorem nd_zero : nd 0 = 0 := by
  unfold nd
  rw [dl_zero]
  rfl
theorem nd_step {n : Nat} (h : 0 < n) : nd n = nd (n / 10) + 1 := by
  unfold nd
  rw [dl_step h, dl_out, List.length_append]
  rfl
theorem nd_le {k n : Nat} (h : n < 10 ^ k) : nd n ≤ k := by
  have := dl_length k n [] h
  simpa [nd] using this

theorem dg_zero : dg 0 = 48 := by decide

theorem rep_digs : ∀ (k n : Nat) (out : List UInt8), n < 10 ^ k → List.replicate (k - nd n) 48 ++ dl n out = digs k n out
  | 0, n, out, h => by
    have : n = 0 := by simpa using h
    subst this
    rw [nd_zero, dl_zero]
    rfl
  | k + 1, n, out, h => by
    by_cases hz : n = 0
    · subst hz
      have ih := rep_digs k 0 (dg 0 :: out) (Nat.pow_pos (by omega))
      show _ = digs k (0 / 10) (dg 0 :: out)
      rw [Nat.zero_div, ← ih, nd_zero, dl_zero, dl_zero, dg_zero, Nat.sub_zero, Nat.sub_zero, List.replicate_succ', List.append_assoc]
      rfl
    · have hn : n / 10 < 10 ^ k := by
        rw [Nat.pow_succ] at h
        omega
      have ih := rep_digs k (n / 10) (dg n :: out) hn
      show _ = digs k (n / 10) (dg n :: out)
      rw [← ih, nd_step (by omega), dl_step (by omega), show k + 1 - (nd (n / 10) + 1) = k - nd (n / 10) by omega]

theorem pad_digs {k n : Nat} (hk : 1 ≤ k) (h : n < 10 ^ k) : pad k n = digs k n [] := by
  rw [← rep_digs k n [] h]
  unfold pad
  by_cases hz : n = 0
  · subst hz
    rw [nd_zero, dl_zero, show dn 0 [] = [48] from rfl, List.append_nil, List.length_singleton, Nat.sub_zero]
    obtain ⟨j, rfl⟩ : ∃ j, k = j + 1 := ⟨k - 1, by omega⟩
    rw [List.replicate_succ', Nat.add_sub_cancel]
  · have e : dn n [] = dl n [] := by
      unfold dn
      rw [if_neg hz]
    rw [e]
    rfl

theorem pad2 {n : Nat} (h : n < 100) : pad 2 n = [dg (n / 10), dg n] := by rw [pad_digs (by omega) (by omega)]; rfl
theorem pad4 {n : Nat} (h : n < 10000) : pad 4 n = [dg (n / 10 / 10 / 10), dg (n / 10 / 10), dg (n / 10), dg n] := by rw [pad_digs (by omega) (by omega)]; rfl
end Go.Proofs.YtchmhdmapknmfaaGreatDoor

/-
  A slice of bytes whose block may be an array's: what it holds, what append makes of it, what is stored into it.
-/
namespace Go.Proofs.YtchmhdmapknmfaaGreatDoor
open Go.RowKit

/-- A slice from a block's begin that holds these bytes; the block may be of any type. -/
def BR (B : Nat) (v : Value) (xs : List UInt8) (w : World) : Prop :=
  ∃ (g cap : Nat) (tg : TypeId) (cur : Array Value), v = .slice (some ⟨g, 0, none⟩) xs.length cap ∧ B ≤ g ∧ w.heap[g]? = some (.cells cur tg (0, 0)) ∧ xs.length ≤ cap ∧ cap ≤ maxLen ∧ cur.size = cap ∧ cur.toList.take xs.length = bRow xs

/-- What is written is the slice's own block, or new ones; the slice that comes out lies there too. -/
def Gw (v : Value) (w : World) (v' : Value) (w' : World) : Prop := w.grownBy w' v.ownBlock ∧ ∀ k, v'.ownBlock = some k → v.ownBlock = some k ∨ w.heap.size ≤ k

theorem Gw.refl (v : Value) (w : World) : Gw v w v w := ⟨⟨rfl, rfl, rfl, Nat.le_refl _, fun _ _ _ => rfl⟩, fun _ h => .inl h⟩
theorem Gw.trans {v v1 v2 : Value} {w w1 w2 : World} (h : Gw v w v1 w1) (g : Gw v1 w1 v2 w2) : Gw v w v2 w2 := by
  have hs := h.1.size
  refine ⟨⟨g.1.os.trans h.1.os, g.1.tape.trans h.1.tape, g.1.output.trans h.1.output, Nat.le_trans h.1.size g.1.size, fun k hk hne => ?_⟩, fun k hk => ?_⟩
  · rw [g.1.block k (by omega), h.1.block k hk hne]
    intro e
    rcases h.2 k e.symm with e2 | e2
    · exact hne e2.symm
    · omega
  · rcases g.2 k hk with e | e
    · exact h.2 k e
    · exact .inr (by omega)
theorem Gw.alloc {v v1 : Value} {w w1 : World} (h : Gw v w v1 w1) (o : Obj) : Gw v w v1 (w1.alloc o) := h.trans ⟨⟨rfl, rfl, rfl, by simp, fun k hk _ => heap_alloc_old w1 o hk⟩, fun _ h => .inl h⟩
theorem Gw.same {v v1 v2 : Value} {w w1 : World} (h : Gw v w v1 w1) (e : v2.ownBlock = v1.ownBlock) : Gw v w v2 w1 := ⟨h.1, fun k hk => h.2 k (e ▸ hk)⟩
theorem Gw.below {B : Nat} {v v1 : Value} {w w1 : World} (h : Gw v w v1 w1) (hv : ∀ k, v.ownBlock = some k → B ≤ k) (hB : B ≤ w.heap.size) : Below B w w1 :=
  ⟨h.1.os, h.1.tape, h.1.output, h.1.size, fun k hk => h.1.block k (by omega) (fun e => by have := hv k e.symm; omega)⟩

theorem bRow_one (xs : List UInt8) : ∀ u ∈ bRow xs, u.oneCell' = true := by
  intro u hu
  simp only [bRow, List.mem_map] at hu
  obtain ⟨b, _, rfl⟩ := hu
  rfl

theorem run_append_room_t {P : Program} (w : World) (t ty e tg : TypeId) (i : TypeInfo) (ht : P.underlying t = some (.slice e)) (hi : P.info? e = some i)
    (g sLen sCap : Nat) (cur : Array Value) (hg : w.heap[g]? = some (.cells cur tg (0, 0)))
    (a : Addr) (m c : Nat) (news : List Value) (hl : news.length = m * i.size) (hnews : ∀ j u, news[j]? = some u → w.cell? (a.add j) = some u) (h1 : ∀ u ∈ news, u.oneCell' = true)
    (hroom : sLen + m ≤ sCap) (hfit : sLen * i.size + news.length ≤ cur.size) :
    (Builtin.append_ #[t, t] ty #[.slice (some ⟨g, 0, none⟩) sLen sCap, .slice (some a) m c]).run P w =
      .ok (.slice (some ⟨g, 0, none⟩) (sLen + m) sCap) (w.setRow g (cur.toList.take (sLen * i.size) ++ news ++ cur.toList.drop (sLen * i.size + news.length)).toArray) := by
  have hf := run_firstCells_some (P := P) w i.size m a m c news hl hnews
  have hst := run_storeCells_at P g (sLen * i.size) tg news 0 cur w hg (by simpa using hfit) h1
  simp only [Nat.add_zero] at hst
  simp [Builtin.append_, run_underlying ht, sizeOf, typeInfo, hi, Builtin.lenOf, hroom, hf, Addr.add_lit, hst]

theorem run_append_room_string_t {P : Program} (w : World) (t u ty e tg : TypeId) (i : TypeInfo) (ht : P.underlying t = some (.slice e)) (hu : P.underlying u = some .string) (hi : P.info? e = some i) (hs1 : i.size = 1)
    (g sLen sCap : Nat) (cur : Array Value) (hg : w.heap[g]? = some (.cells cur tg (0, 0))) (s : ByteArray)
    (hroom : sLen + s.size ≤ sCap) (hfit : sLen + s.size ≤ cur.size) :
    (Builtin.append_ #[t, u] ty #[.slice (some ⟨g, 0, none⟩) sLen sCap, .string s]).run P w =
      .ok (.slice (some ⟨g, 0, none⟩) (sLen + s.size) sCap) (w.setRow g (cur.toList.take sLen ++ Lib.strCells s ++ cur.toList.drop (sLen + s.size)).toArray) := by
  have hf := Lib.run_firstCells_string (P := P) w 1 s
  have hst := run_storeCells_at P g sLen tg (Lib.strCells s) 0 cur w hg (by simpa [Lib.strCells_length] using hfit) (Lib.strCells_oneCell s)
  simp only [Nat.add_zero, Lib.strCells_length] at hst
  simp [Builtin.append_, run_underlying ht, run_underlying hu, sizeOf, typeInfo, hi, hs1, Builtin.lenOf, hroom, hf, Addr.add_lit, hst]

theorem BR.lt {B : Nat} {v : Value} {xs : List UInt8} {w : World} (h : BR B v xs w) : ∀ k, v.ownBlock = some k → B ≤ k ∧ k < w.heap.size := by
  obtain ⟨g, cap, tg, cur, rfl, hb, hg, -⟩ := h
  intro k hk
  simp [Value.ownBlock] at hk
  subst hk
  exact ⟨hb, lt_of_block hg⟩

theorem BR.kept {B : Nat} {v : Value} {xs : List UInt8} {w w' : World} {row : Option Nat} (h : BR B v xs w) (hg : w.grownBy w' row) (hne : v.ownBlock ≠ row) : BR B v xs w' := by
  obtain ⟨g, cap, tg, cur, rfl, hb, hgg, h1, h2, h3, h4⟩ := h
  refine ⟨g, cap, tg, cur, rfl, hb, ?_, h1, h2, h3, h4⟩
  rw [hg.block g (lt_of_block hgg) (by simpa [Value.ownBlock] using hne)]
  exact hgg

theorem BR.below {B : Nat} {v : Value} {xs : List UInt8} {w w' : World} (h : BR B v xs w) (hb : Below w.heap.size w w') : BR B v xs w' := by
  obtain ⟨g, cap, tg, cur, rfl, h0, hgg, h1, h2, h3, h4⟩ := h
  refine ⟨g, cap, tg, cur, rfl, h0, ?_, h1, h2, h3, h4⟩
  rw [hb.block g (lt_of_block hgg)]
  exact hgg

theorem BR.alloc {B : Nat} {v : Value} {xs : List UInt8} {w : World} (h : BR B v xs w) (o : Obj) : BR B v xs (w.alloc o) := by
  obtain ⟨g, cap, tg, cur, rfl, h0, hgg, h1, h2, h3, h4⟩ := h
  refine ⟨g, cap, tg, cur, rfl, h0, ?_, h1, h2, h3, h4⟩
  rw [heap_alloc_old w o (lt_of_block hgg)]
  exact hgg

theorem BR.cells {B : Nat} {v : Value} {xs : List UInt8} {w : World} (h : BR B v xs w) {g n cap : Nat} (hv : v = .slice (some ⟨g, 0, none⟩) n cap) : n = xs.length ∧ ∀ j u, (bRow xs)[j]? = some u → w.cell? ((⟨g, 0, none⟩ : Addr).add j) = some u := by
  obtain ⟨g', cap', tg, cur, hv', h0, hgg, h1, h2, h3, h4⟩ := h
  rw [hv'] at hv
  injection hv with e1 e2 e3
  injection e1 with e1
  injection e1 with e1
  subst e1
  refine ⟨e2.symm, fun j u hu => ?_⟩
  have hadd : (⟨g', 0, none⟩ : Addr).add j = ⟨g', j, none⟩ := by unfold Addr.add; split <;> simp_all
  rw [hadd, cell_of_row w g' j cur tg (0, 0) hgg]
  rw [← h4, List.getElem?_take] at hu
  split at hu
  · simpa using hu
  · cases hu

/-- append of bytes that lie in memory. -/
theorem BR.append {B : Nat} {v : Value} {xs : List UInt8} {w : World} (h : BR B v xs w) (ys : List UInt8) (a : Addr) (m c : Nat) (hm : m = ys.length) (hys : ∀ j u, (bRow ys)[j]? = some u → w.cell? (a.add j) = some u)
    (hlim : xs.length + ys.length ≤ 1000000) (hB : B ≤ w.heap.size) (ty : TypeId) :
    ∃ v' w', (Builtin.append_ #[101, 101] ty #[v, .slice (some a) m c]).run Tryz.prog w = .ok v' w' ∧ BR B v' (xs ++ ys) w' ∧ Gw v w v' w' := by
  subst hm
  obtain ⟨i, hi, hz, hsz, hby⟩ := info_parts Tryz.info5
  obtain ⟨g, cap, tg, cur, rfl, hbg, hgg, h1, h2, h3, h4⟩ := h
  have hlen : (bRow xs ++ bRow ys).length = xs.length + ys.length := by rw [List.length_append, bRow_length, bRow_length]
  by_cases hroom : xs.length + ys.length ≤ cap
  · have hr := run_append_room_t (P := Tryz.prog) w 101 ty 5 tg i Tryz.underlying101 hi g xs.length cap cur hgg a ys.length c (bRow ys) (by rw [hsz, bRow_length, Nat.mul_one]) hys (bRow_one ys) hroom (by rw [hsz, bRow_length]; omega)
    rw [hsz, Nat.mul_one] at hr
    refine ⟨_, _, hr, ⟨g, cap, tg, _, by rw [List.length_append], hbg, setRow_heap w g cur _ tg _ hgg, by rw [List.length_append]; exact hroom, h2, ?_, ?_⟩, ⟨⟨rfl, rfl, rfl, by simp, fun k _ hk => setRow_other w g k _ (fun e => hk (by simp [Value.ownBlock, e]))⟩, fun _ h => .inl h⟩⟩
    · simp only [List.size_toArray, List.length_append, List.length_take, List.length_drop, Array.length_toList, bRow_length]
      omega
    · rw [h4, bRow_append, List.length_append, ← hlen]
      exact List.take_left
  · have holds : ∀ j u, (bRow xs)[j]? = some u → w.cell? ((⟨g, 0, none⟩ : Addr).add j) = some u := (BR.cells ⟨g, cap, tg, cur, rfl, hbg, hgg, h1, h2, h3, h4⟩ rfl).2
    have hr := run_append_grow (P := Tryz.prog) w 101 ty 5 i (.int .u8 0) Tryz.underlying101 hi hz ⟨g, 0, none⟩ xs.length cap (bRow xs) (by rw [hsz, bRow_length, Nat.mul_one]) holds a ys.length c (bRow ys) (by rw [hsz, bRow_length, Nat.mul_one]) hys
      (by omega) (by omega) (growslice_fits (by omega) (by rw [hby]; omega))
    have hge := grownCap_ge w (xs.length + ys.length) cap 5
    have hcm : grownCap w (xs.length + ys.length) cap 5 ≤ maxLen := grownCap_le_maxLen w _ cap 5 (by unfold maxLen; omega)
    refine ⟨_, _, hr, ⟨w.heap.size, _, 5, _, by rw [List.length_append], hB, heap_alloc_new w.drew _, by rw [List.length_append]; exact hge, hcm, ?_, ?_⟩, ⟨⟨rfl, rfl, rfl, by simp, fun k hk _ => heap_alloc_old w.drew _ hk⟩, fun k hk => .inr (by simp [Value.ownBlock] at hk; omega)⟩⟩
    · have hz1 : (Value.int IntKind.u8 0).cells.size = 1 := rfl
      simp only [Array.size_append, List.size_toArray, size_zeroCells, hz1, bRow_length]
      omega
    · simp only [Array.toList_append, List.append_assoc]
      rw [← List.append_assoc, bRow_append, List.length_append, ← hlen]
      exact List.take_left

/-- append of a string's bytes. -/
theorem BR.appendStr {B : Nat} {v : Value} {xs : List UInt8} {w : World} (h : BR B v xs w) (s : ByteArray) (hlim : xs.length + s.size ≤ 1000000) (hB : B ≤ w.heap.size) (ty : TypeId) :
    ∃ v' w', (Builtin.append_ #[101, 9] ty #[v, .string s]).run Tryz.prog w = .ok v' w' ∧ BR B v' (xs ++ bts s) w' ∧ Gw v w v' w' := by
  obtain ⟨i, hi, hz, hsz, hby⟩ := info_parts Tryz.info5
  obtain ⟨g, cap, tg, cur, rfl, hbg, hgg, h1, h2, h3, h4⟩ := h
  have hbs : Lib.strCells s = bRow (bts s) := bRow_str s
  have hsl : (bts s).length = s.size := bts_length s
  have hlen : (bRow xs ++ bRow (bts s)).length = xs.length + s.size := by rw [List.length_append, bRow_length, bRow_length, hsl]
  by_cases hroom : xs.length + s.size ≤ cap
  · have hr := run_append_room_string_t (P := Tryz.prog) w 101 9 ty 5 tg i Tryz.underlying101 Tryz.underlying9 hi hsz g xs.length cap cur hgg s hroom (by omega)
    refine ⟨_, _, hr, ⟨g, cap, tg, _, by rw [List.length_append, hsl], hbg, setRow_heap w g cur _ tg _ hgg, by rw [List.length_append, hsl]; exact hroom, h2, ?_, ?_⟩, ⟨⟨rfl, rfl, rfl, by simp, fun k _ hk => setRow_other w g k _ (fun e => hk (by simp [Value.ownBlock, e]))⟩, fun _ h => .inl h⟩⟩
    · simp only [List.size_toArray, List.length_append, List.length_take, List.length_drop, Array.length_toList, Lib.strCells_length]
      omega
    · rw [h4, hbs, bRow_append, List.length_append, hsl, ← hlen]
      exact List.take_left
  · have holds : ∀ j u, (bRow xs)[j]? = some u → w.cell? ((⟨g, 0, none⟩ : Addr).add j) = some u := (BR.cells ⟨g, cap, tg, cur, rfl, hbg, hgg, h1, h2, h3, h4⟩ rfl).2
    have hr := Lib.run_append_grow_string (P := Tryz.prog) w 101 9 ty 5 i (.int .u8 0) Tryz.underlying101 Tryz.underlying9 hi hz ⟨g, 0, none⟩ xs.length cap (bRow xs) (by rw [hsz, bRow_length, Nat.mul_one]) holds s
      (by omega) (by omega) (by rw [hby]; exact growslice_fits (by omega) (by omega))
    have hge := grownCap_ge w (xs.length + s.size) cap 5
    have hcm : grownCap w (xs.length + s.size) cap 5 ≤ maxLen := grownCap_le_maxLen w _ cap 5 (by unfold maxLen; omega)
    refine ⟨_, _, hr, ⟨w.heap.size, _, 5, _, by rw [List.length_append, hsl], hB, heap_alloc_new w.drew _, by rw [List.length_append, hsl]; exact hge, hcm, ?_, ?_⟩, ⟨⟨rfl, rfl, rfl, by simp, fun k hk _ => heap_alloc_old w.drew _ hk⟩, fun k hk => .inr (by simp [Value.ownBlock] at hk; omega)⟩⟩
    · have hz1 : (Value.int IntKind.u8 0).cells.size = 1 := rfl
      simp only [Array.size_append, List.size_toArray, size_zeroCells, hz1, bRow_length, Lib.strCells_length]
      omega
    · simp only [Array.toList_append, List.append_assoc]
      rw [← List.append_assoc, hbs, bRow_append, List.length_append, hsl, ← hlen]
      exact List.take_left

theorem wpList_append_br {ops : Array Oper} {rest : List Oper} {o : Oper} {a : Act} {Q : Exit → Act → World → Prop} {w : World} (hgd : o.guard = none) (s x : Operand)
    (ho : o.op = .call { callee := .builtin .append, args := #[s, x], argTypes := #[101, 101] }) {B : Nat} {v : Value} {xs : List UInt8} (hs : a.eval s = v) (h : BR B v xs w)
    (ys : List UInt8) (ad : Addr) (m c : Nat) (hx : a.eval x = .slice (some ad) m c) (hm : m = ys.length) (hys : ∀ j u, (bRow ys)[j]? = some u → w.cell? (ad.add j) = some u)
    (hlim : xs.length + ys.length ≤ 1000000) (hB : B ≤ w.heap.size)
    (hk : ∀ v' w', BR B v' (xs ++ ys) w' → Gw v w v' w' → wpList Tryz.prog ops Q rest (a.put o.dst v') w') : wpList Tryz.prog ops Q (o :: rest) a w := by
  refine wpList_plain hgd fun K hK => ?_
  obtain ⟨v', w', hr, h2, h3⟩ := h.append ys ad m c hm hys hlim hB o.type
  unfold Oper.wp execOp
  simp only [ho, resolve, invoke, builtin, Sem.run_bind, Sem.run_pure, Result.andThen_ok, List.map_toArray, List.map_cons, List.map_nil, hs, hx, hr]
  exact hK _ _ (hk v' w' h2 h3)

theorem wpList_append_br_str {ops : Array Oper} {rest : List Oper} {o : Oper} {a : Act} {Q : Exit → Act → World → Prop} {w : World} (hgd : o.guard = none) (s x : Operand)
    (ho : o.op = .call { callee := .builtin .append, args := #[s, x], argTypes := #[101, 9] }) {B : Nat} {v : Value} {xs : List UInt8} (hs : a.eval s = v) (h : BR B v xs w)
    (t : ByteArray) (hx : a.eval x = .string t) (hlim : xs.length + t.size ≤ 1000000) (hB : B ≤ w.heap.size)
    (hk : ∀ v' w', BR B v' (xs ++ bts t) w' → Gw v w v' w' → wpList Tryz.prog ops Q rest (a.put o.dst v') w') : wpList Tryz.prog ops Q (o :: rest) a w := by
  refine wpList_plain hgd fun K hK => ?_
  obtain ⟨v', w', hr, h2, h3⟩ := h.appendStr t hlim hB o.type
  unfold Oper.wp execOp
  simp only [ho, resolve, invoke, builtin, Sem.run_bind, Sem.run_pure, Result.andThen_ok, List.map_toArray, List.map_cons, List.map_nil, hs, hx, hr]
  exact hK _ _ (hk v' w' h2 h3)
end Go.Proofs.YtchmhdmapknmfaaGreatDoor

/-
  appendInt of package time: two and four digits.
-/
namespace Go.Proofs.YtchmhdmapknmfaaGreatDoor
open Go.RowKit

theorem enters180 (args : Array Value) (w : World) : (callFunc 180 args).run Tryz.prog w = .ok (.enter 180 args) w := by kernel_rfl

set_option maxRecDepth 100000 in
set_option maxHeartbeats 400000 in
theorem utod_any (d : Nat) (hd : d < 10) (w : World) : Calls Tryz.prog 180 #[.int .u64 (d : Int)] w fun r w' => r = .returned (.int .u8 ((dg d).toNat : Int)) ∧ w = w' := by
  have h1 := Lib.hid (show (48 : Int) + (d : Int) = ((dg d).toNat : Int) by rw [dg_toNat]; omega)
  have h2 : (d : Int) < 10 := by omega
  go_enter Tryz.func180, Tryz.ntmps180
  go_wp2
  go_ret
  exact ⟨by rw [← h1.out]; rfl, rfl⟩

/-- What an append to a slice of bytes answers. -/
def BrPost (B : Nat) (v : Value) (ys : List UInt8) (w : World) (r : Ending) (w' : World) : Prop := ∃ v', r = .returned v' ∧ BR B v' ys w' ∧ Gw v w v' w'

theorem utod_at {d : Nat} {x : Int} (hx : x = (d : Int)) (hd : d < 10) (w : World) : Calls Tryz.prog 180 #[.int .u64 x] w fun r w' => r = .returned (.int .u8 ((dg d).toNat : Int)) ∧ w = w' := by
  rw [hx]
  exact utod_any d hd w

theorem cells_two {w : World} {a b : Value} (j : Nat) (u : Value) (h : [a, b][j]? = some u) : (w.alloc (.cells #[a, b] 5)).cell? ((⟨w.heap.size, 0, none⟩ : Addr).add j) = some u := by
  have hadd : (⟨w.heap.size, 0, none⟩ : Addr).add j = ⟨w.heap.size, j, none⟩ := by unfold Addr.add; split <;> simp_all
  rw [hadd]
  simp only [World.cell?, World.alloc, Array.getElem?_push_size]
  match j, h with
  | 0, h => simpa using h
  | 1, h => simpa using h

set_option maxRecDepth 100000 in
set_option maxHeartbeats 1000000 in
theorem appendInt_2 {B : Nat} {v : Value} {xs : List UInt8} (n : Nat) (w : World) (h : BR B v xs w) (hn : n < 100) (hx : xs.length ≤ 900000) (hB : B ≤ w.heap.size) :
    Calls Tryz.prog 157 #[v, .int .i64 (n : Int), .int .i64 2] w (BrPost B v (xs ++ Ly.pad 2 n) w) := by
  have H := Lib.hid h
  rw [pad2 hn]
  have Hu1 := Lib.hid (fun W => utod_at (d := n / 10) (x := (n : Int) / 10) (by omega) (by omega) W)
  have Hu2 := Lib.hid (fun W => utod_at (d := n % 10) (x := (n : Int) % 10) (by omega) (by omega) W)
  have e2 : (dg (n % 10)) = dg n := by unfold dg; rw [Nat.mod_mod]
  rw [e2] at Hu2
  have he := enters180
  have hn' : (n : Int) < 100 := by omega
  clear h e2
  go_enter Tryz.func157, Tryz.ntmps157
  go_wp2_with fail
  refine (Hu1.out _).mono ?_
  rintro r w' ⟨rfl, rfl⟩
  go_wp2_with fail
  refine (Hu2.out _).mono ?_
  rintro r w' ⟨rfl, rfl⟩
  go_wp2_with (at_builtin; refine wpList_append_br rfl _ _ rfl rfl (H.out.alloc _) [dg (n / 10), dg n] ⟨w.heap.size, 0, none⟩ 2 2 rfl rfl cells_two (by simp; omega) (by simp; omega) ?_)
  intro v' w' hb hg
  have Hb := Lib.hid hb
  have Hg := Lib.hid (((Gw.refl v w).alloc _).trans hg)
  clear hb hg
  go_wp2
  go_ret
  exact ⟨v', rfl, Hb.out, Hg.out⟩
end Go.Proofs.YtchmhdmapknmfaaGreatDoor

/-
  A slice of bytes: a part of it, its room filled from the end, noughts appended.
-/
namespace Go.Proofs.YtchmhdmapknmfaaGreatDoor
open Go.RowKit

theorem BR.slice {B : Nat} {v : Value} {xs : List UInt8} {w : World} (h : BR B v xs w) : ∃ g cap : Nat, v = .slice (some ⟨g, 0, none⟩) xs.length cap ∧ B ≤ g ∧ g < w.heap.size ∧ xs.length ≤ cap ∧ cap ≤ maxLen := by
  obtain ⟨g, cap, tg, cur, rfl, h0, hg, h1, h2, -⟩ := h
  exact ⟨g, cap, rfl, h0, lt_of_block hg, h1, h2⟩

/-- The first bytes of a slice. -/
theorem BR.take {B g n cap : Nat} {xs : List UInt8} {w : World} (h : BR B (.slice (some ⟨g, 0, none⟩) n cap) xs w) {k : Nat} (hk : k ≤ xs.length) : BR B (.slice (some ⟨g, 0, none⟩) k cap) (xs.take k) w := by
  obtain ⟨g', cap', tg, cur, hv, h0, hg, h1, h2, h3, h4⟩ := h
  injection hv with e1 e2 e3
  injection e1 with e1
  injection e1 with e1
  subst e1 e3
  have hl : (xs.take k).length = k := by rw [List.length_take]; omega
  refine ⟨_, _, tg, cur, by rw [hl], h0, hg, by omega, h2, h3, ?_⟩
  have e : cur.toList.take k = (cur.toList.take xs.length).take k := by rw [List.take_take, Nat.min_eq_left hk]
  rw [hl, e, h4]
  simp [bRow, List.map_take]

/-- A byte of a slice. -/
theorem BR.byte {B g n cap : Nat} {xs : List UInt8} {w : World} (h : BR B (.slice (some ⟨g, 0, none⟩) n cap) xs w) {k : Nat} (hk : k < xs.length) : w.cell? ⟨g, k, none⟩ = some (.int .u8 (xs[k].toNat : Int)) := by
  have := (h.cells rfl).2 k (.int .u8 (xs[k].toNat : Int)) (by simp [bRow, hk])
  have hadd : (⟨g, 0, none⟩ : Addr).add k = ⟨g, k, none⟩ := by unfold Addr.add; split <;> simp_all
  rwa [hadd] at this

/-- A slice's room, filled from its end. -/
def Fl (B g cap L k : Nat) (xs out : List UInt8) (w : World) : Prop :=
  ∃ (tg : TypeId) (cs : List Value), B ≤ g ∧ w.heap[g]? = some (.cells cs.toArray tg (0, 0)) ∧ cs.length = cap ∧ cap ≤ maxLen ∧ xs.length = L ∧ L + k + out.length ≤ cap ∧ cs.take L = bRow xs ∧ (cs.drop (L + k)).take out.length = bRow out

theorem Fl.of {B g cap n : Nat} {xs zs : List UInt8} {w : World} {m : Nat} (h : BR B (.slice (some ⟨g, 0, none⟩) m cap) (xs ++ zs) w) (hn : xs.length + n ≤ cap) : Fl B g cap xs.length n xs [] w := by
  obtain ⟨g', cap', tg, cur, hv, h0, hg, h1, h2, h3, h4⟩ := h
  injection hv with e1 e2 e3
  injection e1 with e1
  injection e1 with e1
  subst e1 e3
  refine ⟨tg, cur.toList, h0, by simpa using hg, by simpa using h3, h2, rfl, by simpa using hn, ?_, rfl⟩
  have e : cur.toList.take xs.length = (cur.toList.take (xs ++ zs).length).take xs.length := by rw [List.take_take, Nat.min_eq_left (by simp)]
  rw [e, h4, bRow_append]
  rw [show xs.length = (bRow xs).length by rw [bRow_length]]
  exact List.take_left

theorem Fl.frozen {B g cap L k : Nat} {xs out : List UInt8} {w : World} (h : Fl B g cap L k xs out w) (i : Nat) : w.frozen? ⟨g, i, none⟩ = false := by
  obtain ⟨tg, cs, h0, h, -⟩ := h
  simp [World.frozen?, h]

theorem Fl.cell {B g cap L k : Nat} {xs out : List UInt8} {w : World} (h : Fl B g cap L k xs out w) (i : Nat) (hi : i < cap) : ∃ v, w.cell? ⟨g, i, none⟩ = some v := by
  obtain ⟨tg, cs, h0, h, hc, -⟩ := h
  refine ⟨cs[i], ?_⟩
  simp only [World.cell?, h]
  simp [hc, hi]

theorem Fl.room {B g cap L k : Nat} {xs out : List UInt8} {w : World} (h : Fl B g cap L k xs out w) : L + k + out.length ≤ cap := by
  obtain ⟨tg, cs, h0, h, hc, hm, hL, hr, -⟩ := h
  exact hr

theorem Fl.push {B g cap L k : Nat} {xs out : List UInt8} {w : World} (h : Fl B g cap L (k + 1) xs out w) (b : UInt8) (x : Int) (hx : x = (b.toNat : Int)) : Fl B g cap L k xs (b :: out) (w.setCell ⟨g, L + k, none⟩ (.int .u8 x)) := by
  subst hx
  obtain ⟨tg, cs, h0, h, hc, hm, hL, hr, ht, hd⟩ := h
  refine ⟨tg, cs.set (L + k) (.int .u8 (b.toNat : Int)), h0, heap_set h _ _, by simpa using hc, hm, hL, by simp; omega, ?_, ?_⟩
  · rw [List.take_set, List.set_eq_of_length_le (by rw [List.length_take]; omega), ht]
  · rw [List.drop_eq_getElem_cons (by simp; omega), List.getElem_set_self, List.drop_set_of_lt (by omega), List.length_cons, List.take_succ_cons]
    rw [show L + k + 1 = L + (k + 1) by omega, hd]
    rfl

theorem Fl.done {B g cap L : Nat} {xs out : List UInt8} {w : World} (h : Fl B g cap L 0 xs out w) : BR B (.slice (some ⟨g, 0, none⟩) (L + out.length) cap) (xs ++ out) w := by
  obtain ⟨tg, cs, h0, h, hc, hm, hL, hr, ht, hd⟩ := h
  refine ⟨g, cap, tg, cs.toArray, by rw [List.length_append, hL], h0, h, by rw [List.length_append]; omega, hm, by simpa using hc, ?_⟩
  rw [List.length_append, hL, List.take_add, ht]
  rw [Nat.add_zero] at hd
  rw [hd, bRow_append]

theorem Gw.setCell {v : Value} {g n cap : Nat} {w w1 : World} (h : Gw v w (.slice (some ⟨g, 0, none⟩) n cap) w1) (i : Nat) (u : Value) : Gw v w (.slice (some ⟨g, 0, none⟩) n cap) (w1.setCell ⟨g, i, none⟩ u) :=
  h.trans ⟨⟨rfl, rfl, rfl, by simp, fun k _ hne => Below.heap_setCell w1 _ u k (fun e => hne (by simp [Value.ownBlock, e]))⟩, fun _ h => .inl h⟩

theorem zero_row (n : Nat) : (Builtin.zeroCells (Value.int .u8 0).cells n).toList = bRow (List.replicate n 0) := by
  have hz : (Value.int IntKind.u8 0).cells = #[.int .u8 0] := rfl
  unfold Builtin.zeroCells
  rw [hz]
  apply List.ext_getElem
  · simp [bRow]
  · intro i h1 h2
    simp [bRow, Nat.mod_one]

/-- append of noughts where there is no room. -/
theorem BR.appendZeros {B g L cap : Nat} {xs : List UInt8} {w : World} (h : BR B (.slice (some ⟨g, 0, none⟩) L cap) xs w) (n : Nat) (h0 : 0 < n) (hg : cap < L + n) (hlim : L + n ≤ 1000000) (hB : B ≤ w.heap.size) (ty : TypeId) :
    ∃ v' w', (Builtin.append_ #[101, 3] ty #[.slice (some ⟨g, 0, none⟩) L cap, .int .i64 (n : Int)]).run Tryz.prog w = .ok v' w' ∧ BR B v' (xs ++ List.replicate n 0) w' ∧ Gw (.slice (some ⟨g, 0, none⟩) L cap) w v' w' := by
  obtain ⟨i, hi, hz, hsz, hby⟩ := info_parts Tryz.info5
  have hcells := (h.cells rfl).2
  have hL := (h.cells rfl).1
  subst hL
  have hfo := run_firstCells_some (P := Tryz.prog) w.drew i.size xs.length ⟨g, 0, none⟩ xs.length cap (bRow xs) (by rw [hsz, bRow_length, Nat.mul_one]) (by simpa using hcells)
  have hr := Lib.run_append_grow_zeros (P := Tryz.prog) w 101 3 ty 5 i (.int .u8 0) .i64 .i64 Tryz.underlying101 Tryz.underlying3 hi hz (some ⟨g, 0, none⟩) xs.length cap (bRow xs) hfo n h0 (by omega) hg (by omega) (by rw [hby]; omega) (by rw [hby]; exact growslice_fits (by omega) (by omega))
  have hge := grownCap_ge w (xs.length + n) cap 5
  have hcm : grownCap w (xs.length + n) cap 5 ≤ maxLen := grownCap_le_maxLen w _ cap 5 (by unfold maxLen; omega)
  have hlen : (bRow xs ++ bRow (List.replicate n 0)).length = xs.length + n := by rw [List.length_append, bRow_length, bRow_length, List.length_replicate]
  refine ⟨_, _, hr, ⟨w.heap.size, _, 5, _, by rw [List.length_append, List.length_replicate], hB, heap_alloc_new w.drew _, by rw [List.length_append, List.length_replicate]; exact hge, hcm, ?_, ?_⟩, ⟨⟨rfl, rfl, rfl, by simp, fun k hk _ => heap_alloc_old w.drew _ hk⟩, fun k hk => .inr (by simp [Value.ownBlock] at hk; omega)⟩⟩
  · have hz1 : (Value.int IntKind.u8 0).cells.size = 1 := rfl
    simp only [Array.size_append, List.size_toArray, size_zeroCells, hz1, bRow_length]
    omega
  · simp only [Array.toList_append, List.append_assoc, zero_row]
    rw [← List.append_assoc, bRow_append, List.length_append, List.length_replicate, ← hlen]
    exact List.take_left

theorem wpList_append_br_zeros {ops : Array Oper} {rest : List Oper} {o : Oper} {a : Act} {Q : Exit → Act → World → Prop} {w : World} (hgd : o.guard = none) (s x : Operand)
    (ho : o.op = .call { callee := .builtin .append, args := #[s, x], argTypes := #[101, 3] }) {B g L cap : Nat} {xs : List UInt8} (hs : a.eval s = .slice (some ⟨g, 0, none⟩) L cap) (h : BR B (.slice (some ⟨g, 0, none⟩) L cap) xs w)
    (n : Nat) (hx : a.eval x = .int .i64 (n : Int)) (h0 : 0 < n) (hg : cap < L + n) (hlim : L + n ≤ 1000000) (hB : B ≤ w.heap.size)
    (hk : ∀ v' w', BR B v' (xs ++ List.replicate n 0) w' → Gw (.slice (some ⟨g, 0, none⟩) L cap) w v' w' → wpList Tryz.prog ops Q rest (a.put o.dst v') w') : wpList Tryz.prog ops Q (o :: rest) a w := by
  refine wpList_plain hgd fun K hK => ?_
  obtain ⟨v', w', hr, h2, h3⟩ := h.appendZeros n h0 hg hlim hB o.type
  unfold Oper.wp execOp
  simp only [ho, resolve, invoke, builtin, Sem.run_bind, Sem.run_pure, Result.andThen_ok, List.map_toArray, List.map_cons, List.map_nil, hs, hx, hr]
  exact hK _ _ (hk v' w' h2 h3)

theorem cells_four {w : World} {a b c d : Value} (j : Nat) (u : Value) (h : [a, b, c, d][j]? = some u) : (w.alloc (.cells #[a, b, c, d] 5)).cell? ((⟨w.heap.size, 0, none⟩ : Addr).add j) = some u := by
  have hadd : (⟨w.heap.size, 0, none⟩ : Addr).add j = ⟨w.heap.size, j, none⟩ := by unfold Addr.add; split <;> simp_all
  rw [hadd]
  simp only [World.cell?, World.alloc, Array.getElem?_push_size]
  match j, h with
  | 0, h => simpa using h
  | 1, h => simpa using h
  | 2, h => simpa using h
  | 3, h => simpa using h
theorem cells_one {w : World} {a : Value} (j : Nat) (u : Value) (h : [a][j]? = some u) : (w.alloc (.cells #[a] 5)).cell? ((⟨w.heap.size, 0, none⟩ : Addr).add j) = some u := by
  have hadd : (⟨w.heap.size, 0, none⟩ : Addr).add j = ⟨w.heap.size, j, none⟩ := by unfold Addr.add; split <;> simp_all
  rw [hadd]
  simp only [World.cell?, World.alloc, Array.getElem?_push_size]
  match j, h with
  | 0, h => simpa using h

set_option maxRecDepth 100000 in
set_option maxHeartbeats 1000000 in
theorem appendInt_4 {B : Nat} {v : Value} {xs : List UInt8} (n : Nat) (w : World) (h : BR B v xs w) (hn : n < 10000) (hx : xs.length ≤ 900000) (hB : B ≤ w.heap.size) :
    Calls Tryz.prog 157 #[v, .int .i64 (n : Int), .int .i64 4] w (BrPost B v (xs ++ Ly.pad 4 n) w) := by
  have H := Lib.hid h
  rw [pad4 hn]
  have e1 : dg (n / 10 / 10 / 10) = dg (n / 1000) := by rw [show n / 10 / 10 / 10 = n / 1000 by omega]
  have e2 : dg (n / 10 / 10) = dg (n / 100 % 10) := by unfold dg; rw [show n / 10 / 10 % 10 = n / 100 % 10 % 10 by omega]
  have e3 : dg (n / 10) = dg (n / 10 % 10) := by unfold dg; rw [Nat.mod_mod]
  have e4 : dg n = dg (n % 10) := by unfold dg; rw [Nat.mod_mod]
  rw [e1, e2, e3, e4]
  have Hu1 := Lib.hid (fun W => utod_at (d := n / 1000) (x := (n : Int) / 1000) (by omega) (by omega) W)
  have Hu2 := Lib.hid (fun W => utod_at (d := n / 100 % 10) (x := (n : Int) / 100 % 10) (by omega) (by omega) W)
  have Hu3 := Lib.hid (fun W => utod_at (d := n / 10 % 10) (x := (n : Int) / 10 % 10) (by omega) (by omega) W)
  have Hu4 := Lib.hid (fun W => utod_at (d := n % 10) (x := (n : Int) % 10) (by omega) (by omega) W)
  have he := enters180
  have hn' : (n : Int) < 10000 := by omega
  clear h e1 e2 e3 e4
  go_enter Tryz.func157, Tryz.ntmps157
  go_wp2_with fail
  refine (Hu1.out _).mono ?_
  rintro r w' ⟨rfl, rfl⟩
  go_wp2_with fail
  refine (Hu2.out _).mono ?_
  rintro r w' ⟨rfl, rfl⟩
  go_wp2_with fail
  refine (Hu3.out _).mono ?_
  rintro r w' ⟨rfl, rfl⟩
  go_wp2_with fail
  refine (Hu4.out _).mono ?_
  rintro r w' ⟨rfl, rfl⟩
  go_wp2_with (at_builtin; refine wpList_append_br rfl _ _ rfl rfl (H.out.alloc _) [dg (n / 1000), dg (n / 100 % 10), dg (n / 10 % 10), dg (n % 10)] ⟨w.heap.size, 0, none⟩ 4 4 rfl rfl cells_four (by simp; omega) (by simp; omega) ?_)
  intro v' w' hb hg
  have Hb := Lib.hid hb
  have Hg := Lib.hid (((Gw.refl v w).alloc _).trans hg)
  clear hb hg
  go_wp2
  go_ret
  exact ⟨v', rfl, Hb.out, Hg.out⟩
end Go.Proofs.YtchmhdmapknmfaaGreatDoor

/-
  appendInt of package time at the other widths: digits counted, noughts ahead of them, the digits laid from the end.
-/
namespace Go.Proofs.YtchmhdmapknmfaaGreatDoor
open Go.RowKit Ly

theorem nd_pow (n : Nat) : n < 10 ^ nd n := by
  induction n using Nat.strongRecOn with
  | _ n ih =>
    by_cases h : n = 0
    · subst h
      rw [nd_zero]
      decide
    · rw [nd_step (by omega), Nat.pow_succ]
      have := ih (n / 10) (by omega)
      omega
theorem nd_low (n : Nat) (h : 0 < n) : 10 ^ (nd n - 1) ≤ n := by
  induction n using Nat.strongRecOn with
  | _ n ih =>
    rw [nd_step h, Nat.add_sub_cancel]
    by_cases h2 : n / 10 = 0
    · rw [h2, nd_zero]
      omega
    · have := ih (n / 10) (by omega) (by omega)
      have e : nd (n / 10) = nd (n / 10) - 1 + 1 := by
        rw [nd_step (n := n / 10) (by omega)]
        omega
      rw [e, Nat.pow_succ]
      omega

/-- How many digits a number has. -/
def ndd (n : Nat) : Nat := if n = 0 then 1 else nd n
theorem ndd_pow (n : Nat) : n < 10 ^ ndd n := by
  unfold ndd
  split
  · omega
  · exact nd_pow n
theorem ndd_low (n : Nat) : ndd n = 1 ∨ 10 ^ (ndd n - 1) ≤ n := by
  unfold ndd
  split
  · exact .inl rfl
  · exact .inr (nd_low n (by omega))
theorem ndd_one (n : Nat) : 1 ≤ ndd n := by
  unfold ndd
  split
  · exact Nat.le_refl _
  · rw [nd_step (by omega)]
    omega
theorem ndd_le {n : Nat} (h : n < 1000000000) : ndd n ≤ 9 := by
  unfold ndd
  split
  · omega
  · exact nd_le (k := 9) h
theorem dn_digs (n : Nat) : dn n [] = digs (ndd n) n [] := by
  unfold dn ndd
  split
  · rename_i h
    subst h
    rfl
  · rw [← rep_digs (nd n) n [] (nd_pow n), Nat.sub_self]
    rfl
theorem dn_ndd (n : Nat) : (dn n []).length = ndd n := by
  rw [dn_digs]
  have : ∀ (k n : Nat) (out : List UInt8), (digs k n out).length = k + out.length := by
    intro k
    induction k with
    | zero => intro n out; show out.length = _; omega
    | succ k ih => intro n out; show (digs k (n / 10) (dg n :: out)).length = _; rw [ih, List.length_cons]; omega
  rw [this]
  rfl
theorem ndd_lt10 {n : Nat} (h : n < 10) : ndd n = 1 := by
  unfold ndd
  split
  · rfl
  · rw [nd_step (by omega), show n / 10 = 0 by omega, nd_zero]
theorem ndd_lt100 {n : Nat} (h1 : 10 ≤ n) (h : n < 100) : ndd n = 2 := by
  unfold ndd
  rw [if_neg (by omega), nd_step (by omega), nd_step (n := n / 10) (by omega), show n / 10 / 10 = 0 by omega, nd_zero]
theorem ndd_lt1000 {n : Nat} (h1 : 100 ≤ n) (h : n < 1000) : ndd n = 3 := by
  unfold ndd
  rw [if_neg (by omega), nd_step (by omega), nd_step (n := n / 10) (by omega), nd_step (n := n / 10 / 10) (by omega), show n / 10 / 10 / 10 = 0 by omega, nd_zero]
theorem pad_ndd (k n : Nat) : pad k n = List.replicate (k - ndd n) 48 ++ digs (ndd n) n [] := by
  unfold pad
  rw [dn_ndd, dn_digs]
theorem pad_zero (n : Nat) : pad 0 n = dn n [] := by
  unfold pad
  rw [Nat.zero_sub]
  rfl
theorem blank2_low {n : Nat} (h : n < 10) : Ly.blank 2 n = [32] ++ pad 0 n := by
  unfold Ly.blank
  rw [dn_ndd, ndd_lt10 h, pad_zero]
  rfl
theorem blank2_high {n : Nat} (h1 : 10 ≤ n) (h : n < 100) : Ly.blank 2 n = pad 0 n := by
  unfold Ly.blank
  rw [dn_ndd, ndd_lt100 h1 h, pad_zero]
  rfl
theorem blank3_low {n : Nat} (h : n < 10) : Ly.blank 3 n = [32] ++ ([32] ++ pad 0 n) := by
  unfold Ly.blank
  rw [dn_ndd, ndd_lt10 h, pad_zero]
  rfl
theorem blank3_mid {n : Nat} (h1 : 10 ≤ n) (h : n < 100) : Ly.blank 3 n = [32] ++ pad 0 n := by
  unfold Ly.blank
  rw [dn_ndd, ndd_lt100 h1 h, pad_zero]
  rfl
theorem blank3_high {n : Nat} (h1 : 100 ≤ n) (h : n < 1000) : Ly.blank 3 n = pad 0 n := by
  unfold Ly.blank
  rw [dn_ndd, ndd_lt1000 h1 h, pad_zero]
  rfl

/-- What the loop that counts digits keeps. -/
def CntRel (N : Nat) (w : World) (v9 v10 : Value) (wr : World) : Prop := ∃ (c u : Nat) (y : Int), v9 = .int .i64 (c : Int) ∧ v10 = .int .u64 y ∧ y = (u : Int) ∧ c + nd u = N ∧ u < 1000000000 ∧ c ≤ 10 ∧ wr = w
/-- What the loop that lays noughts keeps. -/
def ZerRel (B K : Nat) (v : Value) (xs : List UInt8) (w : World) (v0 v11 : Value) (wr : World) : Prop :=
  ∃ (p : Int) (ys : List UInt8), v11 = .int .i64 p ∧ p ≤ 9 ∧ -10 ≤ p ∧ BR B v0 ys wr ∧ Gw v w v0 wr ∧ ys ++ List.replicate p.toNat 48 = xs ++ List.replicate K 48 ∧ B ≤ wr.heap.size
/-- What the loop that lays digits keeps. -/
def DigRel (B g cap N : Nat) (xs fin : List UInt8) (v : Value) (w : World) (v7 v12 : Value) (wr : World) : Prop :=
  ∃ (j u t : Nat) (y : Int) (out : List UInt8), v7 = .int .u64 y ∧ y = (u : Int) ∧ v12 = .int .i64 (t : Int) ∧ t = xs.length + j ∧ Fl B g cap xs.length (j + 1) xs out wr ∧ u < 10 ^ (j + 1) ∧ (j = 0 ∨ 10 ^ j ≤ u) ∧
    digs (j + 1) u out = fin ∧ j + 1 + out.length = N ∧ Gw v w (.slice (some ⟨g, 0, none⟩) (xs.length + N) cap) wr ∧ u < 1000000000

set_option maxRecDepth 100000 in
set_option maxHeartbeats 4000000 in
theorem dateInt_any {B : Nat} {v : Value} {xs : List UInt8} (k n : Nat) (w : World) (h : BR B v xs w) (hk : k ≤ 9) (hk2 : k ≠ 2) (hk4 : k ≠ 4) (hn : n < 1000000000) (hx : xs.length ≤ 900000) (hB : B ≤ w.heap.size) :
    Calls Tryz.prog 157 #[v, .int .i64 (n : Int), .int .i64 (k : Int)] w (BrPost B v (xs ++ Ly.pad k n) w) := by
  have H := Lib.hid h
  have f2 : ((k : Int) == 2) = false := by rw [beq_eq_false_iff_ne]; omega
  have f4 : ((k : Int) == 4) = false := by rw [beq_eq_false_iff_ne]; omega
  obtain ⟨x, hxn⟩ : ∃ x : Int, x = (n : Int) := ⟨_, rfl⟩
  rw [← hxn, pad_ndd]
  have x0 : 0 ≤ x := by omega
  have x9 : x < 1000000000 := by omega
  have Hx := Lib.hid hxn
  obtain ⟨N, hN⟩ : ∃ N, N = ndd n := ⟨_, rfl⟩
  rw [← hN]
  have HN := Lib.hid hN
  have N1 : 1 ≤ N := by rw [hN]; exact ndd_one n
  have N9 : N ≤ 9 := by rw [hN]; exact ndd_le hn
  have he := enters180
  clear h hxn hN
  obtain ⟨c0, hcn, hc0, hz⟩ : ∃ c0 : Nat, c0 + nd n = N ∧ c0 ≤ 1 ∧ ((x == 0) = true ∧ c0 = 1 ∨ (x == 0) = false ∧ c0 = 0) := by
    have := Hx.out
    have h2 := HN.out
    unfold ndd at h2
    by_cases h0 : n = 0
    · rw [if_pos h0] at h2
      subst h0
      exact ⟨1, by rw [nd_zero, h2], Nat.le_refl _, .inl ⟨by rw [beq_iff_eq]; omega, rfl⟩⟩
    · rw [if_neg h0] at h2
      exact ⟨0, by rw [h2]; omega, by omega, .inr ⟨by rw [beq_eq_false_iff_ne]; omega, rfl⟩⟩
  have Hcn := Lib.hid hcn
  have HX := Lib.hid hx
  have Hn := Lib.hid hn
  clear hcn hk2 hk4 hx hn
  have key : (x == 0) = true ∧ c0 = 1 ∨ (x == 0) = false ∧ c0 = 0 := hz
  clear hz
  rcases key with ⟨z1, rfl⟩ | ⟨z1, rfl⟩
  all_goals
    go_enter Tryz.func157, Tryz.ntmps157
    go_wp2_with fail
    go_loopw [9, 10] (fun a b wr => CntRel N w a b wr) (fun _ b _ => (intOf b).toNat)
    case atStart => first | exact ⟨1, n, x, by go_num, rfl, Hx.out, Hcn.out, Hn.out, by decide, rfl⟩ | exact ⟨0, n, x, by go_num, rfl, Hx.out, Hcn.out, Hn.out, by decide, rfl⟩
    case round =>
      obtain ⟨c, u, y, rfl, rfl, hy, hcu, hu, hc, hw⟩ := hrel
      replace hw := hw.symm
      subst hw
      have Hy := Lib.hid hy
      have y0 : 0 ≤ y := by omega
      have y9 : y < 1000000000 := by omega
      by_cases hp : 0 < u
      · have p1 : 0 < y := by omega
        have hs := nd_step hp
        have Hs := Lib.hid (show c + 1 + nd (u / 10) = N by omega)
        have hc9 : c + 1 ≤ 9 := by omega
        clear hy hcu hu hs
        go_wp2
        exact ⟨⟨c + 1, u / 10, y / 10, by go_num, by go_num, by have := Hy.out; omega, Hs.out, by have := Hy.out; omega, by omega, rfl⟩, by simp [intOf]; omega⟩
      · have p1 : y ≤ 0 := by omega
        have hu0 : u = 0 := by omega
        rw [hu0, nd_zero, Nat.add_zero] at hcu
        subst hcu
        clear hy hu
        go_wp2_with fail
        go_loopw [0, 11] (fun a b wr => ZerRel B (k - c) v xs w a b wr) (fun _ b _ => (intOf b).toNat)
        case atStart => exact ⟨(k : Int) - (c : Int), xs, rfl, by omega, by omega, H.out, Gw.refl _ _, by rw [show ((k : Int) - (c : Int)).toNat = k - c by omega], hB⟩
        case round =>
          obtain ⟨p, ys, rfl, p9, p10, hb, hg, hys, hBr⟩ := hrel
          have hl := congrArg List.length hys
          simp only [List.length_append, List.length_replicate] at hl
          have hxl := HX.out
          have hyl : ys.length ≤ 900010 := by omega
          have Hb := Lib.hid hb
          have Hg := Lib.hid hg
          have Hys := Lib.hid hys
          by_cases hpp : 0 < p
          · clear hb hg hys hl hxl
            go_wp2_with (at_builtin; refine wpList_append_br rfl _ _ rfl rfl (Hb.out.alloc _) [48] ⟨wr.heap.size, 0, none⟩ 1 1 rfl rfl cells_one (by simp; omega) (by simp; omega) ?_)
            intro v' w' hb' hg'
            have Hb' := Lib.hid hb'
            have Hg' := Lib.hid (Hg.out.trans (((Gw.refl _ wr).alloc _).trans hg'))
            have hs' : B ≤ w'.heap.size := by have := hg'.1.size; simp only [World.alloc, Array.size_push] at this; omega
            clear hb' hg'
            go_wp2
            exact ⟨⟨p - 1, ys ++ [48], by go_num, by omega, by omega, Hb'.out, Hg'.out, by rw [← Hys.out, List.append_assoc, show p.toNat = (p - 1).toNat + 1 by omega, List.replicate_succ]; rfl, hs'⟩, by simp [intOf]; omega⟩
          · have hp0 : p ≤ 0 := by omega
            have hpt : p.toNat = 0 := by omega
            rw [hpt, List.replicate_zero, List.append_nil] at hys
            have Hye := Lib.hid hys
            clear hys hl hxl Hys
            obtain ⟨w3, hw3⟩ : ∃ w3, w3 = wr := ⟨_, rfl⟩
            rw [← hw3] at hb hg hBr Hb Hg
            obtain ⟨g, cap, rfl, hgB, hglt, hle, hcm⟩ := hb.slice
            have hcm' := hcm
            unfold maxLen at hcm'
            subst hw3
            have hyc : ys.length ≤ 900010 := hyl
            have hc1 : 1 ≤ c := N1
            have hc9 : c ≤ 9 := N9
            clear hb hg
            rcases Nat.lt_or_ge cap (ys.length + c) with hcap | hcap
            · have g1 : (cap : Int) < (ys.length : Int) + (c : Int) := by omega
              go_wp2_with (at_builtin; refine wpList_append_br_zeros rfl _ _ rfl rfl Hb.out c rfl (by omega) hcap (by omega) hBr ?_)
              intro v2 w2 hb2 hg2
              have Hb2 := Lib.hid hb2
              have Hg2 := Lib.hid (Hg.out.trans hg2)
              have hB2 : B ≤ w2.heap.size := by have := hg2.1.size; omega
              clear hb2 hg2
              obtain ⟨g2, cap2, hv2, hgB2, hlt2, hle2, hcm2⟩ := Hb2.out.slice
              rw [List.length_append, List.length_replicate] at hv2 hle2
              subst hv2
              go_wp2_with fail
              have HF := Lib.hid (Fl.of Hb2.out hle2)
              go_loopw [7, 12] (fun a b wr => DigRel B g2 cap2 c ys (digs c n []) v w a b wr) (fun a _ _ => (intOf a).toNat)
              case atStart =>
                have hN := HN.out
                have e1 : c - 1 + 1 = c := by omega
                exact ⟨c - 1, n, ys.length + (c - 1), x, [], rfl, Hx.out, by rw [show ((ys.length : Int) + (c : Int) - 1) = ((ys.length + (c - 1) : Nat) : Int) by omega], rfl, by rw [e1]; exact HF.out, by rw [e1, hN]; exact ndd_pow n, by rcases ndd_low n with h | h; exact .inl (by omega); exact .inr (by rw [hN]; exact h), by rw [e1], by rw [e1]; rfl, Hg2.out, Hn.out⟩
              case round =>
                obtain ⟨j, u2, t, y2, out, rfl, hy2, rfl, ht, hF, hu2, hlow, hdig, hlen, hG, hu9⟩ := hrel
                have hroom := hF.room
                have y20 : 0 ≤ y2 := by omega
                have y29 : y2 < 1000000000 := by omega
                obtain ⟨v0, hcell⟩ := hF.cell t (by omega)
                have hfz := hF.frozen t
                have Hpush := Lib.hid (show ∀ x : Int, x = ((dg u2).toNat : Int) → Fl B g2 cap2 ys.length j ys (dg u2 :: out) (wr.setCell ⟨g2, t, none⟩ (.int .u8 x)) from fun x hx => by rw [ht]; exact hF.push (dg u2) x hx)
                have Hy2 := Lib.hid hy2
                have Ht := Lib.hid ht
                have Hlen := Lib.hid hlen
                have HG := Lib.hid hG
                have htc : (t : Int) < (ys.length : Int) + (c : Int) := by omega
                by_cases hq : 10 ≤ u2
                · have q1 : 10 ≤ y2 := by omega
                  have hj : 1 ≤ j := by
                    rcases Nat.eq_zero_or_pos j with h | h
                    · rw [h] at hu2
                      simp at hu2
                      omega
                    · exact h
                  have t0 : (0 : Int) < (t : Int) := by omega
                  obtain ⟨i, hi⟩ : ∃ i, j = i + 1 := ⟨j - 1, by omega⟩
                  subst hi
                  have Hpow := Lib.hid (show u2 / 10 < 10 ^ (i + 1) by rw [Nat.pow_succ] at hu2; omega)
                  have Hlo := Lib.hid (show i = 0 ∨ 10 ^ i ≤ u2 / 10 by rcases hlow with h | h; omega; exact .inr (by rw [Nat.pow_succ] at h; omega))
                  have Hdig := Lib.hid (show digs (i + 1) (u2 / 10) (dg u2 :: out) = digs c n [] from hdig)
                  have e10 : dg (u2 % 10) = dg u2 := by unfold dg; rw [Nat.mod_mod]
                  have hu := fun W => utod_at (d := u2 % 10) (x := y2 - y2 / 10 * 10) (by omega) (by omega) W
                  rw [e10] at hu
                  have Hu := Lib.hid hu
                  clear hu e10 hy2 ht hF hu2 hlow hdig hlen hG hu9 hroom
                  go_wp2_with fail
                  refine (Hu.out _).mono ?_
                  rintro r w' ⟨rfl, rfl⟩
                  go_wp2
                  exact ⟨⟨i, u2 / 10, t - 1, y2 / 10, dg u2 :: out, by go_num, by have := Hy2.out; omega, by rw [show ((t : Int) - 1) = ((t - 1 : Nat) : Int) by omega], by have := Ht.out; omega, Hpush.out _ rfl, Hpow.out, Hlo.out, Hdig.out, by have := Hlen.out; simp only [List.length_cons]; omega, HG.out.setCell t _, by have := Hy2.out; omega⟩, by simp [intOf]; omega⟩
                · have q1 : y2 < 10 := by omega
                  have hj : j = 0 := by
                    rcases hlow with h | h
                    · exact h
                    · rcases Nat.eq_zero_or_pos j with h2 | h2
                      · exact h2
                      · obtain ⟨i, rfl⟩ : ∃ i, j = i + 1 := ⟨j - 1, by omega⟩
                        rw [Nat.pow_succ] at h
                        have := Nat.pow_pos (n := i) (show 0 < 10 by omega)
                        omega
                  subst hj
                  have Hdig := Lib.hid (show dg u2 :: out = digs c n [] from hdig)
                  have hu := fun W => utod_at (d := u2) (x := y2) (by omega) (by omega) W
                  have Hu := Lib.hid hu
                  clear hu hy2 ht hF hu2 hlow hdig hlen hG hu9 hroom
                  go_wp2_with fail
                  refine (Hu.out _).mono ?_
                  rintro r w' ⟨rfl, rfl⟩
                  go_wp2
                  go_ret
                  have e2 : (dg u2 :: out).length = c := by have := Hlen.out; simp only [List.length_cons]; omega
                  have hbr := (Hpush.out _ rfl).done
                  rw [e2, Hdig.out] at hbr
                  exact ⟨_, rfl, by rw [← List.append_assoc, ← Hye.out]; exact hbr, HG.out.setCell t _⟩
            · have g1 : (ys.length : Int) + (c : Int) ≤ (cap : Int) := by omega
              have Hgs := Lib.hid (Hg.out.same (v2 := .slice (some ⟨g, 0, none⟩) (ys.length + c) cap) rfl)
              go_wp2_with fail
              have HF := Lib.hid (Fl.of (zs := []) (by rw [List.append_nil]; exact Hb.out) hcap)
              go_loopw [7, 12] (fun a b wr => DigRel B g cap c ys (digs c n []) v w a b wr) (fun a _ _ => (intOf a).toNat)
              case atStart =>
                have hN := HN.out
                have e1 : c - 1 + 1 = c := by omega
                exact ⟨c - 1, n, ys.length + (c - 1), x, [], rfl, Hx.out, by rw [show ((ys.length : Int) + (c : Int) - 1) = ((ys.length + (c - 1) : Nat) : Int) by omega], rfl, by rw [e1]; exact HF.out, by rw [e1, hN]; exact ndd_pow n, by rcases ndd_low n with h | h; exact .inl (by omega); exact .inr (by rw [hN]; exact h), by rw [e1], by rw [e1]; rfl, Hgs.out, Hn.out⟩
              case round =>
                obtain ⟨j, u2, t, y2, out, rfl, hy2, rfl, ht, hF, hu2, hlow, hdig, hlen, hG, hu9⟩ := hrel
                have hroom := hF.room
                have y20 : 0 ≤ y2 := by omega
                have y29 : y2 < 1000000000 := by omega
                obtain ⟨v0, hcell⟩ := hF.cell t (by omega)
                have hfz := hF.frozen t
                have Hpush := Lib.hid (show ∀ x : Int, x = ((dg u2).toNat : Int) → Fl B g cap ys.length j ys (dg u2 :: out) (wr.setCell ⟨g, t, none⟩ (.int .u8 x)) from fun x hx => by rw [ht]; exact hF.push (dg u2) x hx)
                have Hy2 := Lib.hid hy2
                have Ht := Lib.hid ht
                have Hlen := Lib.hid hlen
                have HG := Lib.hid hG
                have htc : (t : Int) < (ys.length : Int) + (c : Int) := by omega
                by_cases hq : 10 ≤ u2
                · have q1 : 10 ≤ y2 := by omega
                  have hj : 1 ≤ j := by
                    rcases Nat.eq_zero_or_pos j with h | h
                    · rw [h] at hu2
                      simp at hu2
                      omega
                    · exact h
                  have t0 : (0 : Int) < (t : Int) := by omega
                  obtain ⟨i, hi⟩ : ∃ i, j = i + 1 := ⟨j - 1, by omega⟩
                  subst hi
                  have Hpow := Lib.hid (show u2 / 10 < 10 ^ (i + 1) by rw [Nat.pow_succ] at hu2; omega)
                  have Hlo := Lib.hid (show i = 0 ∨ 10 ^ i ≤ u2 / 10 by rcases hlow with h | h; omega; exact .inr (by rw [Nat.pow_succ] at h; omega))
                  have Hdig := Lib.hid (show digs (i + 1) (u2 / 10) (dg u2 :: out) = digs c n [] from hdig)
                  have e10 : dg (u2 % 10) = dg u2 := by unfold dg; rw [Nat.mod_mod]
                  have hu := fun W => utod_at (d := u2 % 10) (x := y2 - y2 / 10 * 10) (by omega) (by omega) W
                  rw [e10] at hu
                  have Hu := Lib.hid hu
                  clear hu e10 hy2 ht hF hu2 hlow hdig hlen hG hu9 hroom
                  go_wp2_with fail
                  refine (Hu.out _).mono ?_
                  rintro r w' ⟨rfl, rfl⟩
                  go_wp2
                  exact ⟨⟨i, u2 / 10, t - 1, y2 / 10, dg u2 :: out, by go_num, by have := Hy2.out; omega, by rw [show ((t : Int) - 1) = ((t - 1 : Nat) : Int) by omega], by have := Ht.out; omega, Hpush.out _ rfl, Hpow.out, Hlo.out, Hdig.out, by have := Hlen.out; simp only [List.length_cons]; omega, HG.out.setCell t _, by have := Hy2.out; omega⟩, by simp [intOf]; omega⟩
                · have q1 : y2 < 10 := by omega
                  have hj : j = 0 := by
                    rcases hlow with h | h
                    · exact h
                    · rcases Nat.eq_zero_or_pos j with h2 | h2
                      · exact h2
                      · obtain ⟨i, rfl⟩ : ∃ i, j = i + 1 := ⟨j - 1, by omega⟩
                        rw [Nat.pow_succ] at h
                        have := Nat.pow_pos (n := i) (show 0 < 10 by omega)
                        omega
                  subst hj
                  have Hdig := Lib.hid (show dg u2 :: out = digs c n [] from hdig)
                  have hu := fun W => utod_at (d := u2) (x := y2) (by omega) (by omega) W
                  have Hu := Lib.hid hu
                  clear hu hy2 ht hF hu2 hlow hdig hlen hG hu9 hroom
                  go_wp2_with fail
                  refine (Hu.out _).mono ?_
                  rintro r w' ⟨rfl, rfl⟩
                  go_wp2
                  go_ret
                  have e2 : (dg u2 :: out).length = c := by have := Hlen.out; simp only [List.length_cons]; omega
                  have hbr := (Hpush.out _ rfl).done
                  rw [e2, Hdig.out] at hbr
                  exact ⟨_, rfl, by rw [← List.append_assoc, ← Hye.out]; exact hbr, HG.out.setCell t _⟩

/-- appendInt at any width, of a number that stands behind a variable. -/
theorem aint {B : Nat} {v : Value} {xs : List UInt8} (k n : Nat) (x : Int) (hx : x = (n : Int)) (w : World) (h : BR B v xs w) (hok : k = 2 ∧ n < 100 ∨ k = 4 ∧ n < 10000 ∨ k ≤ 9 ∧ k ≠ 2 ∧ k ≠ 4 ∧ n < 1000000000) (hxs : xs.length ≤ 900000) (hB : B ≤ w.heap.size) :
    Calls Tryz.prog 157 #[v, .int .i64 x, .int .i64 (k : Int)] w (BrPost B v (xs ++ Ly.pad k n) w) := by
  subst hx
  rcases hok with ⟨rfl, h2⟩ | ⟨rfl, h2⟩ | ⟨h1, h2, h3, h4⟩
  · exact appendInt_2 n w h h2 hxs hB
  · exact appendInt_4 n w h h2 hxs hB
  · exact dateInt_any k n w h h1 h2 h3 h4 hxs hB
end Go.Proofs.YtchmhdmapknmfaaGreatDoor
