/-
  The escaping of a text: safeAppendStringLike over a string.
-/
import Derived.Test.YtchmhdmapknmfaaGreatDoorBl
import Derived.Test.YtchmhdmapknmfaaGreatDoorPb
namespace Go.Proofs.YtchmhdmapknmfaaGreatDoor
open Go.RowKit

/-- The string's bytes. -/
abbrev bts (s : ByteArray) : List UInt8 := s.data.toList

theorem decodeGo_eq (s : ByteArray) : Lib.decodeGo s = Pl.dec (bts s) := by
  unfold Lib.decodeGo Pl.dec
  have hsz : s.size = (bts s).length := by simp [bts]
  by_cases h0 : s.size = 0
  · rw [if_pos h0, if_pos (List.eq_nil_of_length_eq_zero (by omega))]
  · rw [if_neg h0, if_neg (by intro e; rw [e] at hsz; exact h0 hsz), Lib.decode_at]
    have hg : ∀ i, (s.get! i).toNat = Pl.at0 (bts s) i := by
      intro i
      obtain ⟨bs⟩ := s
      show (bs[i]!).toNat = (bs.toList.getD i 0).toNat
      rw [List.getD_eq_getElem?_getD, Array.getElem?_toList, getElem!_def]
      cases bs[i]? <;> rfl
    rw [hg, hg, hg, hg, ← hsz]
    rfl

theorem bts_extract (s : ByteArray) (p k : Nat) : bts (s.extract p k) = ((bts s).drop p).take (k - p) := by
  unfold bts
  rw [Lib.extract_data]

theorem bts_length (s : ByteArray) : (bts s).length = s.size := by simp [bts]

theorem bts_drop (s : ByteArray) (k : Nat) (h : k < s.size) : (bts s).drop k = s[k] :: (bts s).drop (k + 1) := by
  rw [List.drop_eq_getElem_cons (by rw [bts_length]; exact h)]; rfl

/-- What has been written, and what is to come, are all of it. -/
def SEq (s : ByteArray) (xs pre : List UInt8) (p k : Nat) : Prop := pre ++ ((bts s).drop p).take (k - p) ++ Pl.esc ((bts s).drop k) = xs ++ Pl.esc (bts s)

theorem SEq.bound {s : ByteArray} {xs pre : List UInt8} {p k : Nat} (h : SEq s xs pre p k) (hs : s.size ≤ 100000) (hxs : xs.length ≤ 1000) (hpk : p ≤ k) (hk : k ≤ s.size) : pre.length + (k - p) ≤ 601000 := by
  have := congrArg List.length h
  have h6 := (Pl.esc_length (bts s)).2
  have hl := bts_length s
  simp only [List.length_append, List.length_take, List.length_drop] at this
  omega

theorem take_more (l : List UInt8) (p k m : Nat) (hpk : p ≤ k) : (l.drop p).take (k + m - p) = (l.drop p).take (k - p) ++ (l.drop k).take m := by
  rw [show k + m - p = (k - p) + m from by omega, List.take_add, List.drop_drop, show p + (k - p) = k from by omega]

theorem SEq.plain {s : ByteArray} {xs pre : List UInt8} {p k : Nat} (h : SEq s xs pre p k) (hpk : p ≤ k) (hk : k < s.size) (h1 : s[k].toNat < 128) (h2 : Pl.plainB s[k] = true) : SEq s xs pre p (k + 1) := by
  unfold SEq at *
  rw [← h, take_more _ _ _ _ hpk, bts_drop s k hk, Pl.esc_plain h1 h2]
  simp

theorem SEq.good {s : ByteArray} {xs pre : List UInt8} {p k : Nat} (h : SEq s xs pre p k) (hpk : p ≤ k) (hk : k < s.size) (h1 : 128 ≤ s[k].toNat) (h2 : Pl.bad ((bts s).drop k) = false) : SEq s xs pre p (k + (Pl.dec ((bts s).drop k)).2) := by
  unfold SEq at *
  rw [← h, take_more _ _ _ _ hpk]
  rw [bts_drop s k hk] at *
  rw [Pl.esc_good h1 h2, ← bts_drop s k hk, List.drop_drop]
  simp

/-- Behind what was flushed and what stands for the byte at k. -/
theorem SEq.flush {s : ByteArray} {xs pre out : List UInt8} {p k : Nat} (h : SEq s xs pre p k) (he : Pl.esc ((bts s).drop k) = out ++ Pl.esc ((bts s).drop (k + 1))) : SEq s xs (pre ++ ((bts s).drop p).take (k - p) ++ out) (k + 1) (k + 1) := by
  unfold SEq at *
  rw [← h, he]
  simp

theorem esc_at_bad {s : ByteArray} {k : Nat} (hk : k < s.size) (h1 : 128 ≤ s[k].toNat) (h2 : Pl.bad ((bts s).drop k) = true) : Pl.esc ((bts s).drop k) = Pl.bang ++ Pl.esc ((bts s).drop (k + 1)) := by
  rw [bts_drop s k hk] at *
  exact Pl.esc_bad h1 h2

theorem esc_at {s : ByteArray} {k : Nat} (hk : k < s.size) (h1 : s[k].toNat < 128) (h2 : Pl.plainB s[k] = false) : Pl.esc ((bts s).drop k) = Pl.escB s[k] ++ Pl.esc ((bts s).drop (k + 1)) := by
  rw [bts_drop s k hk]
  exact Pl.esc_esc h1 h2

theorem utf8Tabs_keeps {B b : Nat} {w w' : World} (h : Lib.Utf8Tabs 1 2 w) (k : Keeps B b w w') (hb : 11 ≤ b) (hB : 11 ≤ B) : Lib.Utf8Tabs 1 2 w' := by
  have e : ∀ g o, g < 11 → w'.cell? ⟨g, o, none⟩ = w.cell? ⟨g, o, none⟩ := fun g o hg => World.cell?_of_block (w := w) (a := ⟨g, o, none⟩) (k.block g (by omega) (by omega))
  exact ⟨fun c hc => by rw [e 1 _ (by omega)]; exact h.1 c hc, fun i hi => by rw [e 2 _ (by omega), e 2 _ (by omega)]; exact h.2 i hi⟩

/-- What the loop of safeAppendStringLike keeps. -/
def SRel (B b : Nat) (s : ByteArray) (xs : List UInt8) (w : World) (last i : Value) (wr : World) : Prop :=
  ∃ (p k : Nat) (pre : List UInt8), p ≤ k ∧ k ≤ s.size ∧ last = .int .i64 p ∧ i = .int .i64 k ∧ Buf B b pre wr ∧ Keeps B b w wr ∧
    SEq s xs pre p k

end Go.Proofs.YtchmhdmapknmfaaGreatDoor
