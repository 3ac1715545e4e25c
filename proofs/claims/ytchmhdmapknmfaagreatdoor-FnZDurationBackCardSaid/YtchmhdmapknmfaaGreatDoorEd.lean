/-
  Plain: the table of units, and which of them stands at the head of a text.
-/
import Derived.Test.YtchmhdmapknmfaaGreatDoorEa
import Derived.Test.YtchmhdmapknmfaaGreatDoorGe
namespace Go.Proofs.YtchmhdmapknmfaaGreatDoor

def unm (j : Nat) : List UInt8 := [[110, 115], [194, 181, 115], [109, 115], [115], [109], [104]].getD j []
def unv (j : Nat) : Nat := [1, 1000, 1000000, 1000000000, 60000000000, 3600000000000].getD j 0

/-- Does a text have an 's' in its second place? -/
def snd115 : List UInt8 → Bool
  | _ :: c :: _ => c == 115
  | _ => false

/-- Is this the unit at the head of a text? -/
def um (j : Nat) (X : List UInt8) : Bool := Ly.pre (unm j) X && !(unm j == [109] && snd115 X)

theorem Un.index {U r : List UInt8} {un : Nat} (h : Un U un r) : ∃ j, j < 6 ∧ unm j = U ∧ unv j = un ∧ um j (U ++ r) = true ∧ ∀ i, i < j → um i (U ++ r) = false := by
  have key : ∀ (X : List UInt8) (k : Nat), (∀ i, i < k → um i X = false) → um k X = false → ∀ i, i < k + 1 → um i X = false := by
    intro X k h1 h2 i hi
    rcases Nat.lt_or_ge i k with h3 | h3
    · exact h1 i h3
    · rw [show i = k by omega]
      exact h2
  have k0 : ∀ X : List UInt8, ∀ i, i < 0 → um i X = false := fun X i hi => absurd hi (by omega)
  cases h with
  | ns r => exact ⟨0, by omega, rfl, rfl, rfl, k0 _⟩
  | us r => exact ⟨1, by omega, rfl, rfl, rfl, key _ 0 (k0 _) rfl⟩
  | ms r => exact ⟨2, by omega, rfl, rfl, rfl, key _ 1 (key _ 0 (k0 _) rfl) rfl⟩
  | s r => exact ⟨3, by omega, rfl, rfl, rfl, key _ 2 (key _ 1 (key _ 0 (k0 _) rfl) rfl) rfl⟩
  | m r hr =>
    have h2 : um 2 ([109] ++ r) = false := by
      cases r with
      | nil => rfl
      | cons c l =>
        have hc : (115 == c) = false := by rw [beq_eq_false_iff_ne]; exact fun e => hr c l rfl e.symm
        show (true && (115 == c && Ly.pre [] l) && _) = false
        rw [hc]
        rfl
    have h4 : um 4 ([109] ++ r) = true := by
      cases r with
      | nil => rfl
      | cons c l =>
        have hc : (c == 115) = false := by rw [beq_eq_false_iff_ne]; exact hr c l rfl
        show (true && !(true && (c == 115))) = true
        rw [hc]
        rfl
    exact ⟨4, by omega, rfl, rfl, h4, key _ 3 (key _ 2 (key _ 1 (key _ 0 (k0 _) rfl) rfl) h2) rfl⟩
  | h r => exact ⟨5, by omega, rfl, rfl, rfl, key _ 4 (key _ 3 (key _ 2 (key _ 1 (key _ 0 (k0 _) rfl) rfl) rfl) rfl) rfl⟩
end Go.Proofs.YtchmhdmapknmfaaGreatDoor
