/-
  What nextStdChunk's loop keeps and what it answers: plain facts of a layout at a place.
-/
import Derived.Test.YtchmhdmapknmfaaGreatDoorGe
namespace Go.Proofs.YtchmhdmapknmfaaGreatDoor
open Go.RowKit

/-- No part of the layout has been met ahead of this place. -/
def NxRel (s : ByteArray) (w : World) (k : Nat) (wr : World) : Prop := k ≤ s.size ∧ (∀ W, Ly.lay W (bts s) = (bts s).take k ++ Ly.lay W ((bts s).drop k)) ∧ Below w.heap.size w wr

/-- What nextStdChunk answers. -/
def NxPost (s : ByteArray) (w : World) (r : Ending) (w' : World) : Prop := Below w.heap.size w w' ∧ ∃ (i : Nat) (std : Int) (suf : ByteArray), r = .returned (.tuple #[.string (s.extract 0 i), .int .i64 std, .string suf]) ∧ i ≤ s.size ∧
  ((std = 0 ∧ i = s.size ∧ suf.size = 0 ∧ ∀ W, Ly.lay W (bts s) = bts s) ∨ (∃ l m, Ly.ck l = some (std, m) ∧ l.length ≤ s.size) ∧ suf.size < s.size ∧ ∀ W, Ly.lay W (bts s) = (bts s).take i ++ (W std ++ Ly.lay W (bts suf)))

theorem take_one {s : ByteArray} {k : Nat} (h : k < s.size) : (bts s).take (k + 1) = (bts s).take k ++ [s[k]] := by
  rw [List.take_add, bts_drop s k h]
  rfl

theorem NxRel.next {s : ByteArray} {w wr wr' : World} {k : Nat} (h : NxRel s w k wr) (hlt : k < s.size) (hck : Ly.ck ((bts s).drop k) = none) (hb : Below w.heap.size w wr') : NxRel s w (k + 1) wr' := by
  refine ⟨by omega, fun W => ?_, hb⟩
  rw [h.2.1 W, take_one hlt]
  rw [bts_drop s k hlt] at hck ⊢
  rw [Ly.lay_none W hck, List.append_assoc]
  rfl

theorem NxRel.ret {s : ByteArray} {w wr wr' : World} {k m : Nat} {std : Int} (h : NxRel s w k wr) (hck : Ly.ck ((bts s).drop k) = some (std, m)) (hb : Below w.heap.size w wr') :
    NxPost s w (.returned (.tuple #[.string (s.extract 0 k), .int .i64 std, .string (s.extract (k + m) s.size)])) wr' := by
  have hl := Ly.ck_len hck
  rw [List.length_drop, bts_length] at hl
  have hx : (s.extract (k + m) s.size).size = s.size - (k + m) := by simp
  refine ⟨hb, k, std, _, rfl, h.1, .inr ⟨⟨_, m, hck, by rw [List.length_drop, bts_length]; omega⟩, by rw [hx]; omega, fun W => ?_⟩⟩
  rw [h.2.1 W, Ly.lay_some W hck, show bts (s.extract (k + m) s.size) = (bts s).drop (k + m) from Lib.extract_to_end s _, List.drop_drop]

theorem NxRel.done {s : ByteArray} {w wr wr' : World} {k : Nat} (h : NxRel s w k wr) (hk : k = s.size) (hb : Below w.heap.size w wr') :
    NxPost s w (.returned (.tuple #[.string s, .int .i64 0, .string ⟨#[]⟩])) wr' := by
  refine ⟨hb, s.size, 0, ⟨#[]⟩, by simp, Nat.le_refl _, .inl ⟨rfl, rfl, rfl, fun W => ?_⟩⟩
  rw [h.2.1 W, hk, List.take_of_length_le (by rw [bts_length]; exact Nat.le_refl _), List.drop_of_length_le (by rw [bts_length]; exact Nat.le_refl _), Ly.lay_nil, List.append_nil]

section
variable {s : ByteArray} {k : Nat}

theorem pc {n : Nat} {c : UInt8} {p : List UInt8} (hlt : k < s.size) (hc : s[k] = c) (hn : n = p.length + 1) (hL : k + n ≤ s.size) : ((s.extract k (k + n)).toList == c :: p) = Ly.pre p ((bts s).drop (k + 1)) := by
  rw [sub_pre s k n (c :: p) (by simp; omega) hL, bts_drop s k hlt, hc]
  show (c == c && Ly.pre p _) = _
  rw [beq_self_eq_true, Bool.true_and]

theorem pS {p : List UInt8} (hlt : k < s.size) (h : s.size < k + p.length + 1) : Ly.pre p ((bts s).drop (k + 1)) = false := pre_short _ _ (by rw [List.length_drop, bts_length]; omega)

theorem pL {p : List UInt8} (h : Ly.pre p ((bts s).drop (k + 1)) = true) (hlt : k < s.size) : k + p.length + 1 ≤ s.size := by
  have := Ly.pre_len _ _ h
  rw [List.length_drop, bts_length] at this
  omega

theorem pB (h : k + 1 < s.size) (a : UInt8) : Ly.pre [a] ((bts s).drop (k + 1)) = (a == s[k + 1]) := by
  rw [bts_drop s (k + 1) h]
  show (a == s[k + 1] && true) = _
  rw [Bool.and_true]

theorem pB2 (h : k + 2 < s.size) (a b : UInt8) : Ly.pre [a, b] ((bts s).drop (k + 1)) = (a == s[k + 1] && b == s[k + 2]) := by
  rw [bts_drop s (k + 1) (by omega), bts_drop s (k + 2) h]
  show (a == s[k + 1] && (b == s[k + 2] && true)) = _
  rw [Bool.and_true]

/-- A byte as a number, compared. -/
theorem bF {x a : UInt8} (h : x ≠ a) : ((x.toNat : Int) == (a.toNat : Int)) = false := by
  rw [beq_eq_false_iff_ne]
  intro e
  exact h (UInt8.toNat_inj.1 (by omega))
theorem bN {x a : UInt8} (h : x ≠ a) : (a == x) = false := by
  rw [beq_eq_false_iff_ne]
  exact h.symm

theorem low_at (n : Nat) : Ly.low (bts (s.extract (k + n) s.size)) = Ly.low ((bts s).drop (k + n)) := by
  rw [show bts (s.extract (k + n) s.size) = (bts s).drop (k + n) from Lib.extract_to_end s _]
end
end Go.Proofs.YtchmhdmapknmfaaGreatDoor
