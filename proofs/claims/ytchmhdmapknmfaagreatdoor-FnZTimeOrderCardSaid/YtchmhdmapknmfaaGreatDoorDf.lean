/-
  (ztime.Duration).String: every duration's text.
-/
import Derived.Test.YtchmhdmapknmfaaGreatDoorDe
import Derived.Test.YtchmhdmapknmfaaGreatDoorBb
namespace Go.Proofs.YtchmhdmapknmfaaGreatDoor
open Go.RowKit

/-- The text of so many nanoseconds. -/
def du (u : Nat) : List UInt8 :=
  if u = 0 then [48, 115] else if u < 1000 then dn (u / 10 ^ 0) (fp 0 u [110, 115]) else if u < 1000000 then dn (u / 10 ^ 3) (fp 3 u [194, 181, 115]) else if u < 1000000000 then dn (u / 10 ^ 6) (fp 6 u [109, 115])
  else if u / 10 ^ 9 < 60 then dn (u / 10 ^ 9 % 60) (fp 9 u [115])
  else if u / 10 ^ 9 / 60 < 60 then dn (u / 10 ^ 9 / 60 % 60) (109 :: dn (u / 10 ^ 9 % 60) (fp 9 u [115]))
  else dn (u / 10 ^ 9 / 60 / 60) (104 :: dn (u / 10 ^ 9 / 60 % 60) (109 :: dn (u / 10 ^ 9 % 60) (fp 9 u [115])))

/-- A duration's text. -/
def dt (d : Int) : List UInt8 := if d < 0 then 45 :: du d.natAbs else du d.natAbs

/-- What format does. -/
def FmtPost (g B : Nat) (T : List UInt8) (w0 : World) (r : Ending) (w' : World) : Prop := ∃ k' : Nat, r = .returned (.int .i64 k') ∧ k' + T.length = 32 ∧ Tl g T w' ∧ Below B w0 w'

theorem fmt_pos (u g B : Nat) (w0 w : World) (hB : B ≤ g) (h0 : Below B w0 w) (hT : Tl g [] w) (hu : u ≤ 9223372036854775807) :
    Calls Tryz.prog 153 #[.int .i64 u, .pointer (some ⟨g, 0, none⟩)] w (FmtPost g B (du u) w0) := by
  have e1 : IntKind.u64.wrap (u : Int) = (u : Int) := IntWalk.u64_in _ ⟨by omega, by omega⟩
  have e2 : (0 : Int) ≤ (u : Int) := by omega
  have hu' : u ≤ 9223372036854775808 := by omega
  unfold FmtPost du
  by_cases c0 : u = 0
  · rw [if_pos c0]; exact fmt_pos_z _ _ u g B w0 w rfl e1 e2 hB h0 hT c0
  rw [if_neg c0]
  by_cases c1 : u < 1000
  · rw [if_pos c1]; exact fmt_pos_ns _ _ u g B w0 w rfl e1 e2 hB h0 hT hu' (by omega) c1
  rw [if_neg c1]
  by_cases c2 : u < 1000000
  · rw [if_pos c2]; exact fmt_pos_us _ _ u g B w0 w rfl e1 e2 hB h0 hT hu' (by omega) c2
  rw [if_neg c2]
  by_cases c3 : u < 1000000000
  · rw [if_pos c3]; exact fmt_pos_ms _ _ u g B w0 w rfl e1 e2 hB h0 hT hu' (by omega) c3
  rw [if_neg c3]
  by_cases c4 : u / 10 ^ 9 < 60
  · rw [if_pos c4]; exact fmt_pos_s _ _ u g B w0 w rfl e1 e2 hB h0 hT hu' (by omega) c4
  rw [if_neg c4]
  by_cases c5 : u / 10 ^ 9 / 60 < 60
  · rw [if_pos c5]; exact fmt_pos_m _ _ u g B w0 w rfl e1 e2 hB h0 hT hu' (by omega) (by omega) c5
  rw [if_neg c5]
  exact fmt_pos_h _ _ u g B w0 w rfl e1 e2 hB h0 hT hu' (by omega) (by omega)

theorem fmt_neg (u g B : Nat) (w0 w : World) (hB : B ≤ g) (h0 : Below B w0 w) (hT : Tl g [] w) (hp : 0 < u) (hu : u ≤ 9223372036854775808) :
    Calls Tryz.prog 153 #[.int .i64 (-(u : Int)), .pointer (some ⟨g, 0, none⟩)] w (FmtPost g B (45 :: du u) w0) := by
  have e1 : IntKind.u64.wrap (-(u : Int)) = 18446744073709551616 - (u : Int) := by rw [IntKind.wrap_u64]; omega
  have e1b : IntKind.u64.wrap (-(18446744073709551616 - (u : Int))) = (u : Int) := by rw [IntKind.wrap_u64]; omega
  have e2 : (-(u : Int)) < 0 := by omega
  unfold FmtPost du
  rw [if_neg (by omega : ¬ u = 0)]
  by_cases c1 : u < 1000
  · rw [if_pos c1]; exact fmt_neg_ns _ _ u g B w0 w rfl _ e1 e1b e2 hB h0 hT hu (by omega) c1
  rw [if_neg c1]
  by_cases c2 : u < 1000000
  · rw [if_pos c2]; exact fmt_neg_us _ _ u g B w0 w rfl _ e1 e1b e2 hB h0 hT hu (by omega) c2
  rw [if_neg c2]
  by_cases c3 : u < 1000000000
  · rw [if_pos c3]; exact fmt_neg_ms _ _ u g B w0 w rfl _ e1 e1b e2 hB h0 hT hu (by omega) c3
  rw [if_neg c3]
  by_cases c4 : u / 10 ^ 9 < 60
  · rw [if_pos c4]; exact fmt_neg_s _ _ u g B w0 w rfl _ e1 e1b e2 hB h0 hT hu (by omega) c4
  rw [if_neg c4]
  by_cases c5 : u / 10 ^ 9 / 60 < 60
  · rw [if_pos c5]; exact fmt_neg_m _ _ u g B w0 w rfl _ e1 e1b e2 hB h0 hT hu (by omega) (by omega) c5
  rw [if_neg c5]
  exact fmt_neg_h _ _ u g B w0 w rfl _ e1 e1b e2 hB h0 hT hu (by omega) (by omega)

theorem format_any (d : Int) (g B : Nat) (w0 w : World) (hB : B ≤ g) (h0 : Below B w0 w) (hT : Tl g [] w) (h1 : -9223372036854775808 ≤ d) (h2 : d ≤ 9223372036854775807) :
    Calls Tryz.prog 153 #[.int .i64 d, .pointer (some ⟨g, 0, none⟩)] w (FmtPost g B (dt d) w0) := by
  unfold dt
  by_cases h : d < 0
  · rw [if_pos h]
    obtain ⟨u, hu⟩ : ∃ u : Nat, d = -(u : Int) := ⟨d.natAbs, by omega⟩
    subst hu
    rw [show (-(u : Int)).natAbs = u by omega]
    exact fmt_neg u g B w0 w hB h0 hT (by omega) (by omega)
  · rw [if_neg h]
    obtain ⟨u, hu⟩ : ∃ u : Nat, d = (u : Int) := ⟨d.natAbs, by omega⟩
    subst hu
    rw [show (u : Int).natAbs = u by omega]
    exact fmt_pos u g B w0 w hB h0 hT (by omega)
end Go.Proofs.YtchmhdmapknmfaaGreatDoor
