/-
  The buffer of the JSON encoder: what (*buffer.Buffer)'s methods do to a buffer of which the call owns the row of bytes.
-/
import Derived.Test.YtchmhdmapknmfaaGreatDoorProg
import Derived.WalkKit
import Derived.WalkSpells
import Derived.WalkLawsBesides
import Derived.Lib.Hide
import Derived.OneCell
namespace Go.Proofs.YtchmhdmapknmfaaGreatDoor
open Go.RowKit

theorem Tryz.info5 : (Tryz.prog.info? 5).map (fun i => (i.zero, i.size, i.bytes)) = some (some (.int .u8 0), 1, 1) := by kernel_rfl

/-- The cells of a row of bytes. -/
def bRow (xs : List UInt8) : List Value := xs.map fun x => .int .u8 (x.toNat : Int)

/-- Below block B, but for block b, the second world is as the first was. -/
structure Keeps (B b : Nat) (w w' : World) : Prop where
  os : w'.os = w.os
  tape : w'.tape = w.tape
  output : w'.output = w.output
  size : w.heap.size ≤ w'.heap.size
  block : ∀ k, k < B → k ≠ b → w'.heap[k]? = w.heap[k]?

theorem Keeps.refl (B b : Nat) (w : World) : Keeps B b w w := ⟨rfl, rfl, rfl, Nat.le_refl _, fun _ _ _ => rfl⟩
theorem Keeps.trans {B b : Nat} {w1 w2 w3 : World} (h : Keeps B b w1 w2) (g : Keeps B b w2 w3) : Keeps B b w1 w3 :=
  ⟨g.os.trans h.os, g.tape.trans h.tape, g.output.trans h.output, Nat.le_trans h.size g.size, fun k hk hb => (g.block k hk hb).trans (h.block k hk hb)⟩
theorem Keeps.of_below {B b : Nat} {w w' : World} (h : Below B w w') : Keeps B b w w' := ⟨h.os, h.tape, h.output, h.size, fun k hk _ => h.block k hk⟩
theorem Keeps.setCell {B b : Nat} {w w' : World} (h : Keeps B b w w') {p : Addr} (hp : p.block = b ∨ B ≤ p.block) (u : Value) : Keeps B b w (w'.setCell p u) :=
  h.trans ⟨rfl, rfl, rfl, by simp [World.setCell], fun k hk hb => Below.heap_setCell _ _ _ _ (by omega)⟩

/-- Block b is a buffer; its row of bytes lies in a block from B on (or there is none yet). -/
structure Buf (B b : Nat) (xs : List UInt8) (w : World) : Prop where
  lt : b < B
  le : B ≤ w.heap.size
  own : ∃ sv, w.heap[b]? = some (.cells #[sv] 181 (0, 0)) ∧ w.ownsRow B 5 1 sv xs.length (bRow xs)

theorem grown_keeps {B b : Nat} {w w' : World} {row : Option Nat} (hg : w.grownBy w' row) (hB : B ≤ w.heap.size) (hr : ∀ k, row = some k → B ≤ k) : Keeps B b w w' :=
  ⟨hg.os, hg.tape, hg.output, hg.size, fun k hk _ => hg.block k (by omega) (fun e => by have := hr k e.symm; omega)⟩

/-- Behind a growing append and the store of the new slice: the buffer holds what it held and the new bytes. -/
theorem Buf.put {B b : Nat} {sv v' : Value} {n : Nat} {ys : List UInt8} {w w0 w1 : World} (hlt : b < B) (hle : B ≤ w.heap.size) (hblk : w.heap[b]? = some (.cells #[sv] 181 (0, 0)))
    {xs0 : List Value} (hown : w.ownsRow B 5 1 sv n xs0) (hb0 : Below w.heap.size w w0) (hg : w0.grownBy w1 sv.ownBlock) (h1 : w1.ownsRow B 5 1 v' ys.length (bRow ys)) :
    Buf B b ys (w1.setCell ⟨b, 0, none⟩ v') ∧ Keeps B b w (w1.setCell ⟨b, 0, none⟩ v') := by
  have hrow : ∀ k, sv.ownBlock = some k → B ≤ k := by
    intro k hk
    obtain ⟨_, h | ⟨g, cap, cur, hv, hg', _⟩⟩ := hown
    · rw [h.1] at hk; simp [Value.ownBlock] at hk
    · rw [hv] at hk; simp [Value.ownBlock] at hk; omega
  have hk1 : Keeps B b w w1 := (Keeps.of_below (hb0.mono hle)).trans (grown_keeps hg (by have := hb0.size; omega) hrow)
  have hne : some b ≠ sv.ownBlock := fun e => by have := hrow b e.symm; omega
  have hblk1 : w1.heap[b]? = some (.cells #[sv] 181 (0, 0)) := by
    rw [hg.block b (by have := hb0.size; omega) hne, hb0.block b (by omega)]; exact hblk
  refine ⟨⟨hlt, by have := hk1.size; simp [World.setCell]; omega, v', one_setCell hblk1, ownsRow_setCell_below h1 (by simpa using hlt) _⟩, hk1.setCell (.inl rfl) _⟩

theorem slice_of_own {w : World} {base e size n : Nat} {v : Value} {xs : List Value} (h : w.ownsRow base e size v n xs) : ∃ p k, v = .slice p n k := by
  obtain ⟨_, ⟨h1, h2⟩ | ⟨g, cap, cur, hv, _⟩⟩ := h
  · exact ⟨_, _, by rw [h1, h2]⟩
  · exact ⟨_, _, hv⟩

set_option maxRecDepth 100000 in
set_option maxHeartbeats 400000 in
theorem appendByte_any {B b : Nat} {xs : List UInt8} (x : UInt8) (c : Int) (w : World) (hc : c = (x.toNat : Int)) (h : Buf B b xs w) (hn : xs.length + 1 ≤ 140737488355328) :
    Calls Tryz.prog 150 #[.pointer (some ⟨b, 0, none⟩), .int .u8 c] w fun e w' => e = .returned (.tuple #[]) ∧ Buf B b (xs ++ [x]) w' ∧ Keeps B b w w' := by
  obtain ⟨hlt, hle, sv, hblk, hown⟩ := h
  obtain ⟨i0, hi, hz0, hz1, hz2⟩ := info_parts Tryz.info5
  have hb := cell_of_one hblk
  have hf := free_of_one hblk
  have Hown := Lib.hid hown
  have Hblk := Lib.hid hblk
  have Hc := Lib.hid hc
  clear hown hblk hc
  go_enter Tryz.func150, Tryz.ntmps150
  go_wp2_with (at_builtin; refine wpList_append_own _ rfl _ _ 101 rfl B 5 i0 (.int .u8 0) 1 1 Tryz.underlying101 hi hz0 hz1 hz2 rfl (by decide) _ _ _ rfl (Hown.out.alloc _) ⟨w.heap.size, 0, none⟩ 1 1 [.int .u8 c] rfl rfl ?c1 ?c2 ?c3 ?c4 ?c5 ?_)
  case c1 => exact cell_one_new _ _ _
  case c2 => simp [Value.oneCell']
  case c3 => unfold maxLen; omega
  case c4 => omega
  case c5 => simp; omega
  intro v' w1 hown1 hgrow _
  have Hown1 := Lib.hid hown1
  have Hgrow := Lib.hid hgrow
  have hne : some b ≠ sv.ownBlock := fun e => by
    obtain ⟨_, h | ⟨g, cap, cur, hv, hg', _⟩⟩ := Hown.out
    · rw [h.1] at e; simp [Value.ownBlock] at e
    · rw [hv] at e; simp [Value.ownBlock] at e; omega
  have hblk1 : w1.heap[b]? = some (.cells #[sv] 181 (0, 0)) := by
    rw [hgrow.block b (by simp; omega) hne, Below.heap_alloc _ _ _ (by omega)]; exact Hblk.out
  have hb1 := cell_of_one hblk1
  have hf1 := free_of_one hblk1
  obtain ⟨p, k, hv⟩ := slice_of_own hown1
  clear hown1 hgrow hne hblk1
  rw [hv] at Hown1 ⊢
  clear hv
  go_wp2
  go_end0
  refine ⟨rfl, ?_⟩
  refine Buf.put hlt hle Hblk.out Hown.out ((Below.refl _ _).alloc (Nat.le_refl _) _) Hgrow.out ?_
  have := Hown1.out
  rw [Hc.out] at this
  simpa [bRow] using this
end Go.Proofs.YtchmhdmapknmfaaGreatDoor
