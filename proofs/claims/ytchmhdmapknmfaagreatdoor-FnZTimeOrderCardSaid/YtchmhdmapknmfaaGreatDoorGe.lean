/-
  Plain: parts of a string compared with letters.
-/
import Derived.Test.YtchmhdmapknmfaaGreatDoorGa
import Derived.Test.YtchmhdmapknmfaaGreatDoorBm
namespace Go.Proofs.YtchmhdmapknmfaaGreatDoor
open Go.RowKit

theorem take_pre : ∀ (p l : List UInt8), p.length ≤ l.length → (l.take p.length == p) = Ly.pre p l
  | [], l, _ => by
    rw [List.length_nil, List.take_zero]
    rfl
  | _ :: _, [], h => by simp at h
  | a :: p, b :: l, h => by
    simp only [List.length_cons] at h
    have ih := take_pre p l (by omega)
    show (b :: l.take p.length == a :: p) = (a == b && Ly.pre p l)
    rw [← ih]
    show (b == a && l.take p.length == p) = _
    rw [Bool.beq_comm (a := b) (b := a)]

theorem pre_short : ∀ (p l : List UInt8), l.length < p.length → Ly.pre p l = false
  | [], l, h => by simp at h
  | _ :: _, [], _ => rfl
  | a :: p, b :: l, h => by
    simp only [List.length_cons] at h
    show (a == b && Ly.pre p l) = false
    rw [pre_short p l (by omega), Bool.and_false]

/-- A part of a string is those letters, or is not. -/
theorem sub_pre (s : ByteArray) (i n : Nat) (p : List UInt8) (hn : n = p.length) (h : i + n ≤ s.size) : ((s.extract i (i + n)).toList == p) = Ly.pre p ((bts s).drop i) := by
  subst hn
  rw [Lib.extract_toList, Nat.add_sub_cancel_left]
  show (((bts s).drop i).take p.length == p) = _
  exact take_pre p _ (by rw [List.length_drop, bts_length]; omega)
end Go.Proofs.YtchmhdmapknmfaaGreatDoor
