/-
  What lies below a buffer: it takes what it is handed.
-/
import Derived.Test.YtchmhdmapknmfaaGreatDoorWc
import Derived.Deep.AppendLies
import Derived.Deep.RegionLaw
namespace Go.Proofs.YtchmhdmapknmfaaGreatDoor
open Go.RowKit

/-- What has come out lies in block b. -/
def OutIs (B b : Nat) (out : List ByteArray) (w : World) : Prop := ∃ vo, w.heap[b]? = some (.cells #[vo] 130 (0, 0)) ∧ w.ownsRow B 9 1 vo out.length (out.map .string)

/-- Only blocks of these types are turned, and none below B. -/
structure KT (T : List TypeId) (B : Nat) (w w' : World) : Prop where
  below : Below B w w'
  keep : ∀ (k : Nat) (cs : Array Value) (t : TypeId) (z : Nat × Nat), w.heap[k]? = some (Obj.cells cs t z) → t ∉ T → w'.heap[k]? = some (Obj.cells cs t z)
theorem KT.refl (T : List TypeId) (B : Nat) (w : World) : KT T B w w := ⟨Below.refl _ _, fun _ _ _ _ h _ => h⟩
theorem KT.trans {T : List TypeId} {B : Nat} {w1 w2 w3 : World} (h : KT T B w1 w2) (g : KT T B w2 w3) : KT T B w1 w3 := ⟨h.below.trans g.below, fun k cs t z e n => g.keep k cs t z (h.keep k cs t z e n) n⟩
theorem KT.more {T T' : List TypeId} {B : Nat} {w1 w2 : World} (h : KT T B w1 w2) (hs : ∀ t, t ∈ T → t ∈ T') : KT T' B w1 w2 := ⟨h.below, fun k cs t z e n => h.keep k cs t z e (fun m => n (hs t m))⟩
theorem KT.alloc {T : List TypeId} {B : Nat} {w w' : World} (h : KT T B w w') (hB : B ≤ w.heap.size) (o : Obj) : KT T B w (w'.alloc o) := by
  refine ⟨h.below.alloc (Nat.le_trans hB h.below.size) o, fun k cs t z e n => ?_⟩
  have h2 := h.keep k cs t z e n
  rw [heap_alloc_old w' o (lt_of_block h2)]
  exact h2
theorem KT.undrew {T : List TypeId} {B : Nat} {w w' : World} (h : KT T B w.drew w') : KT T B w w' := ⟨((Below.refl B w).drew).trans h.below, h.keep⟩
theorem KT.drewN {T : List TypeId} {B : Nat} {w w' : World} (h : KT T B w w') (n : Nat) : KT T B w (w'.drewN n) := ⟨zb_drewN h.below n, h.keep⟩

theorem ne_of_type {w : World} {B n b tb : Nat} {v : Value} {xs cs : List Value} {z : Nat × Nat} {te : Nat} (h : w.ownsRow B te 1 v n xs) (hb : w.heap[b]? = some (Obj.cells cs.toArray tb z)) (hne : tb ≠ te) : some b ≠ v.ownBlock := by
  intro e
  obtain ⟨c, hc⟩ := row_type h e.symm
  rw [hb] at hc
  simp at hc
  exact hne hc.2.1

theorem OutIs.hold {B b n : Nat} {w w2 : World} {o : Obj} {vo : Value} {xs : List Value} (h1 : w.heap[b]? = some (.cells #[vo] 130 (0, 0))) (h2 : w.ownsRow B 9 1 vo n xs) (g : (w.alloc o).grownBy w2 vo.ownBlock) : w2.heap[b]? = some (.cells #[vo] 130 (0, 0)) := by
  have hl := lt_of_block h1
  rw [g.block b (by simp only [World.size_alloc]; omega) (ne_of_type (cs := [vo]) h2 h1 (by decide)), heap_alloc_old w o hl]
  exact h1

theorem OutIs.put {B b : Nat} {w w2 : World} {o : Obj} {vo v' : Value} {out : List ByteArray} {t : ByteArray} (h1 : w.heap[b]? = some (.cells #[vo] 130 (0, 0))) (h2 : w.ownsRow B 9 1 vo out.length (out.map .string)) (hBb : B ≤ b) (g : (w.alloc o).grownBy w2 vo.ownBlock)
    (ho : w2.ownsRow B 9 1 v' (out.length + 1) (out.map .string ++ [.string t])) : OutIs B b (out ++ [t]) (w2.setCell ⟨b, 0, none⟩ v') ∧ KT [130, 9] B w (w2.setCell ⟨b, 0, none⟩ v') := by
  have hh := OutIs.hold h1 h2 g
  have hl := lt_of_block h1
  have hg := g.size
  simp only [World.size_alloc] at hg
  refine ⟨⟨v', one_setCell hh, ?_⟩, ⟨⟨g.os, g.tape, g.output, by simp only [World.setCell, Array.size_modify]; omega, fun k hk => ?_⟩, fun k cs t z e n => ?_⟩⟩
  · rw [List.length_append, List.map_append]
    refine row_same ho fun q hq => Below.heap_setCell _ _ _ _ ?_
    intro e
    have := ne_of_type (cs := [vo]) ho hh (by decide)
    exact this (by rw [hq, e])
  · rw [Below.heap_setCell _ _ _ _ (by show k ≠ b; omega), g.block k (by simp only [World.size_alloc]; omega) (fun e => by have := (h2.lt k e.symm).1; omega), heap_alloc_old w o (by omega)]
  · have hkl := lt_of_block e
    have hkb : k ≠ b := by
      intro e2
      rw [e2, h1] at e
      simp at e
      exact n (by rw [← e.2.1]; simp)
    have hk9 : some k ≠ vo.ownBlock := by
      intro e2
      obtain ⟨c, hc⟩ := row_type h2 e2.symm
      rw [e] at hc
      simp at hc
      exact n (by rw [hc.2.1]; simp)
    rw [Below.heap_setCell _ _ _ _ (by show k ≠ b; exact hkb), g.block k (by simp only [World.size_alloc]; omega) hk9, heap_alloc_old w o hkl]
    exact e

set_option maxRecDepth 100000 in
set_option maxHeartbeats 1000000 in
theorem belowWrite_any {B b g : Nat} (cap : Nat) (out : List ByteArray) (t : ByteArray) (w : World) (h : OutIs B b out w) (hp : PBy g t w) (hB : B ≤ w.heap.size) (ho : out.length ≤ 1000) (hb : B ≤ b) :
    Calls Tryz.prog 224 #[.pointer (some ⟨b, 0, none⟩), .slice (some ⟨g, 0, none⟩) t.size cap] w fun r w' => r = .returned (.tuple #[.int .i64 (t.size : Int), .nilIface]) ∧ OutIs B b (out ++ [t]) w' ∧ KT [130, 9] B w w' := by
  obtain ⟨i3, hi3, hz3, hs3, hb3⟩ := info_parts Tryz.info9
  obtain ⟨vo, h1, h2⟩ := h
  have c1 := cell_of_one h1
  have f1 := free_of_one h1
  have hs := (show PBy g t w.drew from hp).str cap
  have cx := cell_of_one ((heap_alloc_old w (.cells #[.string t] 9) (lt_of_block h1)).trans h1)
  have HA := Lib.hid (And.intro h1 (And.intro h2 (And.intro hB (And.intro ho hb))))
  clear h1 h2 hp ho hb hB
  go_enter Tryz.func224, Tryz.ntmps224
  go_wp2_with fail
  go_region_law (refine step_append_lies _ rfl (.tmp 10) (.tmp 13) 22 rfl B 9 i3 (.string ⟨#[]⟩) 1 16 Tryz.underlying22 hi3 hz3 hs3 hb3 rfl (by decide) vo out.length (out.map .string) (by simp [Act.eval]) (HA.out.2.1.alloc _) ⟨w.heap.size, 0, none⟩ 1 1 [.string t] (by simp [Act.eval]) rfl (one_at (new_at rfl)) (by simp [Value.oneCell']) (by decide) (by have := HA.out.2.2.2.1; unfold maxLen; omega) (by have := HA.out.2.2.2.1; omega) (by have := HA.out.2.2.1; simp; omega) _ rfl ?_; intro g2 cap2 w2 hown hgrow _ _; have hh := OutIs.hold (w := w.drew) HA.out.1 HA.out.2.1 hgrow; have c2 := cell_of_one hh; have f2 := free_of_one hh; have HP := Lib.hid (OutIs.put (w := w.drew) HA.out.1 HA.out.2.1 HA.out.2.2.2.2 hgrow hown); clear hh hown hgrow)
  all_goals
    go_wp2
    go_ret2
    exact ⟨rfl, HP.out.1, HP.out.2.undrew⟩
end Go.Proofs.YtchmhdmapknmfaaGreatDoor
