/-
  Whole numbers written by the encoder: Buffer.AppendInt, jsonEncoder.AppendInt64 at an empty buffer.
-/
import Derived.Test.YtchmhdmapknmfaaGreatDoorBc
import Derived.Test.YtchmhdmapknmfaaGreatDoorShelf
namespace Go.Proofs.YtchmhdmapknmfaaGreatDoor
open Go.RowKit

theorem Tryz.g8 : Tryz.prog.globalNamed "internal/strconv.uint64pow10" = some 8 := by kernel_rfl

/-- The table of powers of ten holds what it should. -/
def Pow (w : World) : Prop := Lib.TabIs Tryz.prog w "internal/strconv.uint64pow10" .u64 Lib.pow10Tab

theorem Pow.of_block {w w' : World} (h : Pow w) (hb : w'.heap[8]? = w.heap[8]?) : Pow w' := by
  unfold Pow Lib.TabIs World.var? at *
  rw [Tryz.g8] at *
  simp only [Option.bind_some] at *
  rw [hb]; exact h
theorem Pow.keeps {B b : Nat} {w w' : World} (h : Pow w) (k : Keeps B b w w') (hb : 11 ≤ b) (hB : 11 ≤ B) : Pow w' := h.of_block (k.block 8 (by omega) (by omega))
theorem Pow.belowB {B : Nat} {w w' : World} (h : Pow w) (k : Below B w w') (hB : 11 ≤ B) : Pow w' := h.of_block (k.block 8 (by omega))
theorem Pow.tab {B : Nat} {w : World} (h : Pow w) (hB : 11 ≤ B) : Lib.TabBelow Tryz.prog B w "internal/strconv.uint64pow10" .u64 Lib.pow10Tab := fun _ k => h.belowB k hB

theorem byteCells_eq (l : List UInt8) : Lib.byteCells l = bRow l := rfl

set_option maxRecDepth 100000 in
set_option maxHeartbeats 400000 in
theorem appendInt_any {B b : Nat} {xs : List UInt8} (i : Int) (w : World) (h : Buf B b xs w) (hp : Pow w) (hb15 : 11 ≤ b) (h0 : -9223372036854775808 ≤ i) (h1 : i ≤ 9223372036854775807) (hn : xs.length + 21 ≤ 140737488355328) :
    Calls Tryz.prog 151 #[.pointer (some ⟨b, 0, none⟩), .int .i64 i] w fun e w' => e = .returned (.tuple #[]) ∧ Buf B b (xs ++ Lib.itoa i) w' ∧ Keeps B b w w' := by
  obtain ⟨hlt, hle, sv, hblk, hown⟩ := h
  have hb := cell_of_one hblk
  have hf := free_of_one hblk
  have Hown := Lib.hid hown
  have Hblk := Lib.hid hblk
  have Hc := Lib.hid (Tryz.strconv_AppendInt_10 B xs.length i h0 h1 sv (bRow xs) w hown hle hn (hp.tab (by omega)))
  clear hown hblk hp h0 h1
  go_enter Tryz.func151, Tryz.ntmps151
  go_wp2_with fail
  refine Hc.out.mono ?_
  rintro e w1 ⟨v', rfl, hown1, hbel, -⟩
  have Hown1 := Lib.hid hown1
  have Hbel := Lib.hid hbel
  have hblk1 : w1.heap[b]? = some (.cells #[sv] 181 (0, 0)) := by rw [hbel.block b hlt]; exact Hblk.out
  have Hblk1 := Lib.hid hblk1
  have hb1 := cell_of_one hblk1
  have hf1 := free_of_one hblk1
  obtain ⟨p, k, hv⟩ := slice_of_own hown1
  clear hown1 hbel hblk1 Hc
  rw [hv] at Hown1 ⊢
  clear hv
  go_wp2
  go_end0
  refine ⟨rfl, ⟨hlt, by have := Hbel.out.size; simp [World.setCell]; omega, _, one_setCell Hblk1.out, ?_⟩, (Keeps.of_below (b := b) Hbel.out).setCell (p := ⟨b, 0, none⟩) (.inl rfl) _⟩
  have := ownsRow_setCell_below Hown1.out (a := ⟨b, 0, none⟩) (by simpa using hlt) (.slice p (xs.length + (Lib.itoa i).length) k)
  rw [byteCells_eq, ← bRow_append] at this
  simpa using this

set_option maxRecDepth 100000 in
set_option maxHeartbeats 400000 in
theorem appendInt64_any {B c b e : Nat} (i : Int) (w : World) (h : Enc B c b e [] w) (hp : Pow w) (hb15 : 11 ≤ b) (h0 : -9223372036854775808 ≤ i) (h1 : i ≤ 9223372036854775807) :
    Calls Tryz.prog 236 #[.pointer (some ⟨e, 0, none⟩), .int .i64 i] w fun r w' => r = .returned (.tuple #[]) ∧ Buf B b (Lib.itoa i) w' ∧ Keeps B b w w' := by
  obtain ⟨-, hc1, -, -⟩ := cells4 h.blk
  have Hs := Lib.hid (sep_empty w h)
  have Hi := Lib.hid (appendInt_any i w h.buf hp hb15 h0 h1 (by simp))
  clear h hp h0 h1
  go_enter Tryz.func236, Tryz.ntmps236
  go_wp2_with fail
  refine Hs.out.mono ?_
  rintro r w' ⟨rfl, rfl⟩
  go_wp2_with fail
  refine Hi.out.mono ?_
  rintro r w' ⟨rfl, hB, hK⟩
  have HB := Lib.hid hB
  have HK := Lib.hid hK
  clear hB hK
  go_wp2
  go_end0
  exact ⟨rfl, by simpa using HB.out, HK.out⟩
end Go.Proofs.YtchmhdmapknmfaaGreatDoor
