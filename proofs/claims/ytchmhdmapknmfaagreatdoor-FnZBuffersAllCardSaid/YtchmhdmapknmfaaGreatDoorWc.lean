/-
  ZPieces: the reference's pieces.
-/
import Derived.Test.YtchmhdmapknmfaaGreatDoorWb
import Derived.Test.YtchmhdmapknmfaaGreatDoorVe
namespace Go.Proofs.YtchmhdmapknmfaaGreatDoor
open Go.RowKit

theorem zb_empty {s : ByteArray} (h : s.size = 0) : s.toList.isEmpty = true := by
  rw [ba_size0 h]
  decide +kernel
theorem zb_some {s : ByteArray} (h : s.size ≠ 0) : s.toList.isEmpty = false := by
  rw [Lib.toList_data]
  cases hl : s.data.toList with
  | nil => exact absurd (by rw [Lib.size_eq, hl]; rfl) h
  | cons => rfl

/-- Pieces and what waits, in two blocks. -/
def PcIs (b : Nat) (s : Zb) (w : World) : Prop := ∃ vo, w.heap[b]? = some (.cells #[vo] 22 (0, 0)) ∧ w.heap[b + 1]? = some (.cells #[.string s.wait] 9 (0, 0)) ∧ w.ownsRow (b + 2) 9 1 vo s.out.length (s.out.map .string)

theorem PcIs.lt {b : Nat} {s : Zb} {w : World} (h : PcIs b s w) : b + 2 ≤ w.heap.size := by
  obtain ⟨vo, _, h2, _⟩ := h
  have := lt_of_block h2
  omega

theorem PcIs.put {b : Nat} {s : Zb} {w w1 : World} {o : Obj} {vo v' : Value} {t : ByteArray} (h1 : w.heap[b]? = some (.cells #[vo] 22 (0, 0))) (h2 : w.heap[b + 1]? = some (.cells #[.string s.wait] 9 (0, 0))) (h3 : w.ownsRow (b + 2) 9 1 vo s.out.length (s.out.map .string))
    (g : (w.alloc o).grownBy w1 vo.ownBlock) (ho : w1.ownsRow (b + 2) 9 1 v' (s.out.length + 1) (s.out.map .string ++ [.string t])) : PcIs b { s with out := s.out ++ [t] } (w1.setCell ⟨b, 0, none⟩ v') ∧ Below b w (w1.setCell ⟨b, 0, none⟩ v') := by
  have hl1 := lt_of_block h1
  have hl2 := lt_of_block h2
  have old : ∀ k, k < b + 2 → w1.heap[k]? = w.heap[k]? := by
    intro k hk
    rw [g.block k (by simp only [World.size_alloc]; omega) (fun e => by have := (h3.lt k e.symm).1; omega), heap_alloc_old w o (by omega)]
  have hg := g.size
  simp only [World.size_alloc] at hg
  refine ⟨⟨v', one_setCell (by rw [old b (by omega)]; exact h1), ?_, ?_⟩, ?_⟩
  · rw [Below.heap_setCell _ _ _ _ (by show b + 1 ≠ b; omega), old (b + 1) (by omega)]
    exact h2
  · have e : ({ s with out := s.out ++ [t] } : Zb).out = s.out ++ [t] := rfl
    rw [e, List.length_append, List.map_append]
    exact ownsRow_setCell_below ho (by show b < b + 2; omega) _
  · exact (show Below b w w1 from ⟨g.os, g.tape, g.output, by omega, fun k hk => old k (by omega)⟩).trans ⟨rfl, rfl, rfl, by simp [World.setCell], fun k hk => Below.heap_setCell _ _ _ _ (by show k ≠ b; omega)⟩

theorem PcIs.wait {b : Nat} {s : Zb} {w : World} (h : PcIs b s w) (t : ByteArray) : PcIs b { s with wait := t } (w.setCell ⟨b + 1, 0, none⟩ (.string t)) ∧ Below b w (w.setCell ⟨b + 1, 0, none⟩ (.string t)) := by
  obtain ⟨vo, h1, h2, h3⟩ := h
  refine ⟨⟨vo, ?_, one_setCell h2, ownsRow_setCell_below h3 (by show b + 1 < b + 2; omega) _⟩, ⟨rfl, rfl, rfl, by simp [World.setCell], fun k hk => Below.heap_setCell _ _ _ _ (by show k ≠ b + 1; omega)⟩⟩
  rw [Below.heap_setCell _ _ _ _ (by show b ≠ b + 1; omega)]
  exact h1

set_option maxRecDepth 100000 in
set_option maxHeartbeats 1000000 in
/-- The reference's flush. -/
theorem flush65_any {b : Nat} (s : Zb) (w : World) (h : PcIs b s w) (hl : s.out.length ≤ 1000) :
    Calls Tryz.prog 65 #[.pointer (some ⟨b + 1, 0, none⟩), .pointer (some ⟨b, 0, none⟩)] w fun r w' => r = .returned (.tuple #[]) ∧ PcIs b s.flush w' ∧ Below b w w' := by
  obtain ⟨i3, hi3, hz3, hs3, hb3⟩ := info_parts Tryz.info9
  obtain ⟨vo, h1, h2, h3⟩ := h
  have c1 := cell_of_one h1
  have c2 := cell_of_one h2
  have f1 := free_of_one h1
  have f2 := free_of_one h2
  have hl2 := lt_of_block h2
  have HA := Lib.hid (And.intro h1 (And.intro h2 (And.intro h3 hl)))
  have H0 : PcIs b s w := ⟨vo, h1, h2, h3⟩
  have HP := Lib.hid H0
  have HL := Lib.hid hl2
  obtain ⟨t, ht⟩ : ∃ t, t = s.wait := ⟨_, rfl⟩
  rw [← ht] at c2
  have HT := Lib.hid ht
  clear h1 h2 h3 H0 hl2
  by_cases h0 : t.size = 0
  · have he := zb_empty h0
    have H0 := Lib.hid h0
    clear h0 ht
    go_enter Tryz.func65, Tryz.ntmps65
    go_wp2
    have hfin : PcIs b s.flush w := by
      rw [Zb.flush_id (ba_size0 (by rw [← HT.out]; exact H0.out))]
      exact HP.out
    go_end0
    exact ⟨rfl, hfin, Below.refl _ _⟩
  · have he := zb_some h0
    have H0 := Lib.hid h0
    clear h0 ht hl
    go_enter Tryz.func65, Tryz.ntmps65
    go_wp2_with (at_builtin; refine wpList_append_own _ rfl _ _ 22 rfl (b + 2) 9 i3 (.string ⟨#[]⟩) 1 16 Tryz.underlying22 hi3 hz3 hs3 hb3 rfl (by decide) vo s.out.length (s.out.map .string) rfl (HA.out.2.2.1.alloc _) ⟨w.heap.size, 0, none⟩ 1 1 [.string t] rfl rfl ?e1 ?e2 ?e3 ?e4 ?e5 ?_)
    case e1 => exact one_at (new_at rfl)
    case e2 => simp [Value.oneCell']
    case e3 => have := HA.out.2.2.2; unfold maxLen; omega
    case e4 => have := HA.out.2.2.2; omega
    case e5 => have := HL.out; simp; omega
    intro v2 w2 hown hgrow _
    obtain ⟨pv2, kv2, rfl⟩ := slice_of_own hown
    have hP := PcIs.put HA.out.1 HA.out.2.1 HA.out.2.2.1 hgrow hown
    have hb0 := HL.out
    have q1 : w2.heap[b]? = some (.cells #[vo] 22 (0, 0)) := by
      rw [hgrow.block b (by simp only [World.size_alloc]; omega) (fun e => by have := (HA.out.2.2.1.lt b e.symm).1; omega), heap_alloc_old w _ (by omega)]
      exact HA.out.1
    have q2 : w2.heap[b + 1]? = some (.cells #[.string t] 9 (0, 0)) := by
      rw [hgrow.block (b + 1) (by simp only [World.size_alloc]; omega) (fun e => by have := (HA.out.2.2.1.lt (b + 1) e.symm).1; omega), heap_alloc_old w _ (by omega), HT.out]
      exact HA.out.2.1
    have hc := free_of_one q1
    have hc2 := free_of_one q2
    have hd := cell_of_one q1
    have hd2 := cell_of_one q2
    clear q1 q2 hb0
    have hP2 := hP.1.wait ⟨#[]⟩
    have H2 := Lib.hid (And.intro hP hP2)
    clear hown hgrow hP hP2
    go_wp2
    go_end0
    refine ⟨rfl, ?_, H2.out.1.2.trans H2.out.2.2⟩
    unfold Zb.flush
    rw [if_neg (by rw [← HT.out]; exact H0.out), ← HT.out]
    exact H2.out.2.1
end Go.Proofs.YtchmhdmapknmfaaGreatDoor
