/-
  The text of the level 0 by its lowercase encoder.
-/
import Derived.Test.YtchmhdmapknmfaaGreatDoorBj
import Derived.Maps.AppendAt
namespace Go.Proofs.YtchmhdmapknmfaaGreatDoor
open Go.RowKit

/-- "info". -/
def infoS : ByteArray := ⟨#[105, 110, 102, 111]⟩

set_option maxRecDepth 100000 in
set_option maxHeartbeats 400000 in
theorem levelString_0 (w : World) : Calls Tryz.prog 122 #[.int .i8 0] w fun r w' => r = .returned (.string infoS) ∧ w = w' := by
  go_enter Tryz.func122, Tryz.ntmps122
  go_wp2
  go_ret
  exact ⟨rfl, rfl⟩

theorem Tryz.info20 : (Tryz.prog.info? 20).map (fun i => (i.zero, i.size, i.bytes)) = some (some .nilIface, 1, 16) := by kernel_rfl

/-- Block a is an encoder of a list, whose elements lie in a row of their own. -/
def SEnc (B a : Nat) (n : Nat) (xs : List Value) (w : World) : Prop := B ≤ a ∧ a < w.heap.size ∧ ∃ sv, w.heap[a]? = some (.cells #[sv] 154 (0, 0)) ∧ w.ownsRow B 20 1 sv n xs ∧ sv.ownBlock ≠ some a

/-- A store into another block leaves an owned row owned. -/
theorem ownsRow_setCell_ne {w : World} {base : Nat} {e : TypeId} {size : Nat} {v : Value} {n : Nat} {xs : List Value} (h : w.ownsRow base e size v n xs) {a : Addr} (ha : v.ownBlock ≠ some a.block) (u : Value) : (w.setCell a u).ownsRow base e size v n xs := by
  obtain ⟨h1, h2⟩ := h
  refine ⟨h1, ?_⟩
  rcases h2 with h2 | ⟨g, cap, cur, hv, hg, hh, r⟩
  · exact Or.inl h2
  · refine Or.inr ⟨g, cap, cur, hv, hg, ?_, r⟩
    rw [hv] at ha
    rw [Below.heap_setCell _ _ _ _ (by intro e; exact ha (by simp [Value.ownBlock, e]))]; exact hh

theorem own_ne {w : World} {B e size n : Nat} {sv : Value} {xs : List Value} {a : Nat} (h : w.ownsRow B e size sv n xs) (ha : a < B) : some a ≠ sv.ownBlock := fun e => by
  obtain ⟨_, h | ⟨g, cap, cur, hv, hg', _⟩⟩ := h
  · rw [h.1] at e; simp [Value.ownBlock] at e
  · rw [hv] at e; simp [Value.ownBlock] at e; omega

theorem own_ge {w : World} {B e size n : Nat} {sv : Value} {xs : List Value} (h : w.ownsRow B e size sv n xs) : ∀ k, sv.ownBlock = some k → B ≤ k := by
  intro k hk
  obtain ⟨_, h | ⟨g, cap, cur, hv, hg', _⟩⟩ := h
  · rw [h.1] at hk; simp [Value.ownBlock] at hk
  · rw [hv] at hk; simp [Value.ownBlock] at hk; omega

set_option maxRecDepth 100000 in
set_option maxHeartbeats 400000 in
theorem sliceAppendString {B a n : Nat} {xs : List Value} (s : ByteArray) (w : World) (h : SEnc B a n xs w) (hn : n + 1 ≤ 1000) :
    Calls Tryz.prog 314 #[.pointer (some ⟨a, 0, none⟩), .string s] w fun r w' => r = .returned (.tuple #[]) ∧ SEnc B a (n + 1) (xs ++ [.iface 9 (.string s)]) w' ∧ Below B w w' := by
  obtain ⟨hBa, hlt, sv, hblk, hown, hne⟩ := h
  obtain ⟨i0, hi, hz0, hz1, hz2⟩ := info_parts Tryz.info20
  have hb := cell_of_one hblk
  have hf := free_of_one hblk
  have Hown := Lib.hid hown
  have Hblk := Lib.hid hblk
  have Hne := Lib.hid hne
  clear hown hblk hne
  go_enter Tryz.func314, Tryz.ntmps314
  go_wp2_with (at_builtin; refine wpList_append_own_at _ rfl _ _ 152 rfl B 20 i0 .nilIface 1 16 Tryz.underlying152 hi hz0 hz1 hz2 rfl (by decide) _ _ _ rfl (Hown.out.alloc _) ⟨w.heap.size, 0, none⟩ 1 1 [.iface 9 (.string s)] rfl rfl ?c1 ?c2 ?c3 ?c4 ?c5 ?_)
  case c1 => exact cell_one_new _ _ _
  case c2 => simp [Value.oneCell']
  case c3 => unfold maxLen; omega
  case c4 => omega
  case c5 => simp; omega
  intro v' w1 hown1 hgrow _ hat
  have Hown1 := Lib.hid hown1
  have Hgrow := Lib.hid hgrow
  have Hat : Hid (v'.ownBlock ≠ some a) := by
    intro e
    rcases hat with h | h
    · exact Hne.out (h.symm.trans e)
    · rw [h] at e; simp at e; omega
  have hk1 : Below B w w1 := (((Below.refl _ w).alloc (Nat.le_refl _) _).mono (by omega)).grown hgrow (by simp; omega) (own_ge Hown.out)
  have Hk1 := Lib.hid hk1
  have hblk1 : w1.heap[a]? = some (.cells #[sv] 154 (0, 0)) := by
    rw [hgrow.block a (by simp; omega) (fun e => Hne.out e.symm), Below.heap_alloc _ _ _ (by omega)]; exact Hblk.out
  have Hblk1 := Lib.hid hblk1
  have hb1 := cell_of_one hblk1
  have hf1 := free_of_one hblk1
  obtain ⟨p, k, hv⟩ := slice_of_own hown1
  clear hown1 hgrow hblk1 hk1 hat
  rw [hv] at Hown1 Hat ⊢
  clear hv
  go_wp2
  go_end0
  refine ⟨rfl, ⟨hBa, by have := Hk1.out.size; simp [World.setCell]; omega, _, one_setCell Hblk1.out, ownsRow_setCell_ne Hown1.out Hat.out _, Hat.out⟩, Hk1.out.setCell (p := ⟨a, 0, none⟩) hBa _⟩
end Go.Proofs.YtchmhdmapknmfaaGreatDoor
