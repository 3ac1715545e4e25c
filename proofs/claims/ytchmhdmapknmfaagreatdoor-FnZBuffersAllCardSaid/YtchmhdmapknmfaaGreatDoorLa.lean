/-
  What the rows' lifts share: the knob, that the layout fits, the tables that the listed variables lay.
-/
import Derived.Test.YtchmhdmapknmfaaGreatDoorRows
import Derived.Test.YtchmhdmapknmfaaGreatDoorShelf
import Derived.WalkKit
import Derived.ProofKit
import Derived.PinnedBridge
import Derived.Lay
import Derived.OpenVars
import Derived.Lib.LaidU8
import Derived.Lib.LaidTab
namespace Go.Proofs.YtchmhdmapknmfaaGreatDoor
open Go.RowKit Go.ChangeShapes Go.WideShapes Go.ChangeAt

theorem Tryz.own : ownKnob Tryz.prog.godebug = none := by kernel_rfl
theorem Tryz.laidOut : laidOutB Tryz.prog = true := by kernel_rfl

theorem vars3 {H : Type} {enc : TypeId × Value → H} {P : Program} {w : World} {sp : Nat → Bool} {a b c : String} {gs : List (DataW H)} {q : List MemPlace} (h : DataW.TrodVars enc P w sp [a, b, c] gs q) : ∃ g1 g2 g3, gs = [g1, g2, g3] := by
  match gs, h with
  | [], h => exact h.elim
  | g1 :: gs, ⟨_, _, _, _, _, _, _, _, _, _, h, _⟩ =>
    match gs, h with
    | [], h => exact h.elim
    | g2 :: gs, ⟨_, _, _, _, _, _, _, _, _, _, h, _⟩ =>
      match gs, h with
      | [], h => exact h.elim
      | g3 :: gs, ⟨_, _, _, _, _, _, _, _, _, _, h, _⟩ =>
        match gs, h with
        | [], _ => exact ⟨g1, g2, g3, rfl⟩
        | _ :: _, h => exact h.elim

theorem pow10_data : (Rows.laid_internal_strconv_uint64pow10 : DataW Unit) = Lib.tabData .u64 Lib.pow10Tab := by kernel_rfl
theorem accept_data : (Rows.laid_unicode_utf8_acceptRanges : DataW Unit) = Lib.acceptData := by kernel_rfl
theorem first_data : Rows.laid_unicode_utf8_first = Lib.firstData := Pinned.utf8First_eq

/-- The table of powers of ten, out of what the listed variable reads as. -/
theorem pow_of_reads {W : World} (h : Lib.VarReads Tryz.prog W "internal/strconv.uint64pow10" (Lib.tabData .u64 Lib.pow10Tab)) : Lib.TabIs Tryz.prog W "internal/strconv.uint64pow10" .u64 Lib.pow10Tab := by
  obtain ⟨g, t, cs, fuel, p, hg, ht, hv, hd⟩ := h
  have hg8 : Tryz.prog.globalNamed "internal/strconv.uint64pow10" = some 8 := by kernel_rfl
  obtain rfl := Option.some.inj (hg8.symm.trans hg)
  have hty : (Tryz.prog.globals[8]?).map (·.type) = some 280 := by kernel_rfl
  obtain rfl := Option.some.inj (hty.symm.trans ht)
  unfold Lib.TabIs
  rw [hv, ← Lib.cells_of_tab (n := 20) Tryz.underlying280 Tryz.underlying86 (by kernel_rfl) (by kernel_rfl) hd]

/-- The variables down to number 10 lie in memory. -/
theorem heap11 {W : World} {d : DataW Unit} (h : Lib.VarReads Tryz.prog W "math/bits.deBruijn64tab" d) : 11 ≤ W.heap.size := by
  obtain ⟨g, t, cs, fuel, p, hg, _, hv, _⟩ := h
  have hg10 : Tryz.prog.globalNamed "math/bits.deBruijn64tab" = some 10 := by kernel_rfl
  unfold World.var? at hv
  rw [hg10] at hv
  simp only [Option.bind_some] at hv
  rcases Nat.lt_or_ge 10 W.heap.size with h' | h'
  · exact h'
  · rw [Array.getElem?_eq_none h'] at hv; cases hv
end Go.Proofs.YtchmhdmapknmfaaGreatDoor
