/-
  JRead of a string without escapes.
-/
import Derived.Test.YtchmhdmapknmfaaGreatDoorEh
import Derived.Deep.RegionHeld3
import Derived.Laws.EntriesVeiled
namespace Go.Proofs.YtchmhdmapknmfaaGreatDoor
open Go.RowKit

theorem frozen4 {w : World} {b : Nat} {t : TypeId} {u0 u1 u2 u3 : Value} (h : w.heap[b]? = some (.cells #[u0, u1, u2, u3] t (0, 0))) (i : Nat) : w.frozen? ⟨b, i, none⟩ = false := by
  simp [World.frozen?, h]

set_option maxRecDepth 100000 in
set_option maxHeartbeats 4000000 in
theorem jRead_text {s : ByteArray} {T : List UInt8} (w : World) (hT : Lib.Utf8Tabs 1 2 w) (hH : 11 ≤ w.heap.size) (hs : s.size ≤ 1000000) (he : bts s = qt T) (hc : Clean T) :
    Calls Tryz.prog 13 #[.string s] w fun r w' => r = .returned (.tuple #[.agg #[.int .i64 4, .string ⟨T.toArray⟩, .slice none 0 0, .slice none 0 0], .bool true]) ∧ Below w.heap.size w w' := by
  have hsz := qt_size he
  have HT := Lib.hid hT
  have Hv := Lib.hid (fun (W : World) (q : Nat) (hW : JR q s 0 0 W) (hTW : Lib.Utf8Tabs 1 2 W) (hq : 11 ≤ q) => value_text W hW hTW hq hs he hc)
  have Hbl := Lib.hid (fun (W : World) (q : Nat) (hW : JR q s ((s.size : Nat) : Int) 0 W) => blanks_none W hW (Nat.le_refl _) (fun hlt => absurd hlt (Nat.lt_irrefl _)))
  have Hsz := Lib.hid hsz
  have hHp : 11 ≤ w.heap.size + 1 := by omega
  clear hT he hc hsz
  go_enter Tryz.func13, Tryz.ntmps13
  go_wp2_with fail
  refine (Hv.out _ (w.heap.size + 1) ?_ ?_ hHp).mono ?_
  · have := heap_alloc_new (w.alloc (.cells #[.int .i64 0, .string ⟨#[]⟩, .slice none 0 0, .slice none 0 0] 25)) (.cells #[.string s, .int .i64 0, .int .i64 0] 65)
    unfold JR
    simpa using this
  · exact utf8Tabs_below HT.out (((Below.refl _ w).alloc (Nat.le_refl _) _).alloc (by simp) _) hH
  rintro r w1 ⟨rfl, hJ, hk⟩
  have hsize1 : w.heap.size + 2 ≤ w1.heap.size := by have := hk.size; simpa using this
  have hr1 : w1.heap[w.heap.size]? = some (.cells #[.int .i64 0, .string ⟨#[]⟩, .slice none 0 0, .slice none 0 0] 25 (0, 0)) := by
    rw [hk.block _ (by simp; omega) (by omega), heap_alloc_old _ _ (by simp)]
    exact heap_alloc_new w _
  have hb1 : Below w.heap.size w w1 := (((Below.refl _ w).alloc (Nat.le_refl _) _).alloc (by simp) _).trans (hk.below (by simp; omega) (by omega))
  have HB1 := Lib.hid hb1
  have HJ1 := Lib.hid hJ
  have HR1 := Lib.hid hr1
  clear hJ hk hr1 hb1
  go_wp2_with fail
  refine (Hbl.out _ (w.heap.size + 1) (by rw [Hsz.out]; exact HJ1.out.alloc _)).mono ?_
  rintro r w2 ⟨rfl, hJ, hb⟩
  have hn := heap_alloc_new w1 (.cells #[.int .i64 4, .string ⟨T.toArray⟩, .slice none 0 0, .slice none 0 0] 25)
  have hn2 : w2.heap[w1.heap.size]? = some (.cells #[.int .i64 4, .string ⟨T.toArray⟩, .slice none 0 0, .slice none 0 0] 25 (0, 0)) := by
    rw [hb.block _ (by simp)]
    exact hn
  have hr2 : w2.heap[w.heap.size]? = some (.cells #[.int .i64 0, .string ⟨#[]⟩, .slice none 0 0, .slice none 0 0] 25 (0, 0)) := by
    rw [hb.block _ (by simp; omega), heap_alloc_old _ _ (by omega)]
    exact HR1.out
  have HB2 := Lib.hid (HB1.out.trans (((Below.refl _ w1).alloc (Nat.le_refl _) (.cells #[.int .i64 4, .string ⟨T.toArray⟩, .slice none 0 0, .slice none 0 0] 25)).mono (by omega)))
  have HB3 := Lib.hid (HB2.out.trans (hb.mono (by simp; omega)))
  obtain ⟨v0, v1, v2, v3⟩ := cells4 hn2
  obtain ⟨g0, g1, g2, g3⟩ := cells4 hr2
  obtain ⟨-, c1, -⟩ := hJ.cells
  have y0 := frozen4 hr2 0
  have y1 := frozen4 hr2 1
  have y2 := frozen4 hr2 2
  have y3 := frozen4 hr2 3
  have hne : w1.heap.size ≠ w.heap.size := by omega
  have hne' : w.heap.size ≠ w1.heap.size := by omega
  have hee : (((s.size : Nat) : Int) == ((s.size : Nat) : Int)) = true := by simp
  have HR2 := Lib.hid hr2
  clear hb hn hn2 hr2 hJ HJ1 HR1 HB1 HB2
  go_wp2_with fail
  go_region_held3 (fun w' => w'.cell? ⟨w1.heap.size, 0, none⟩ = some (.int .i64 4) ∧ w'.cell? ⟨w1.heap.size, 1, none⟩ = some (.string ⟨T.toArray⟩) ∧ w'.cell? ⟨w1.heap.size, 2, none⟩ = some (.slice none 0 0) ∧ w'.cell? ⟨w1.heap.size, 3, none⟩ = some (.slice none 0 0) ∧ w'.cell? ⟨w.heap.size + 1, 1, none⟩ = some (.int .i64 ((s.size : Nat) : Int))) (go_keep) (fail)
  all_goals
    go_wp2
    have hb4 := put4 HR2.out (.int .i64 4) (.string ⟨T.toArray⟩) (.slice none 0 0) (.slice none 0 0)
    obtain ⟨r0, r1, r2, r3⟩ := cells4 hb4
    clear v0 v1 v2 v3 g0 g1 g2 g3 y0 y1 y2 y3 c1
    refine bodyPost_ret (v := .tuple #[.agg #[.int .i64 4, .string ⟨T.toArray⟩, .slice none 0 0, .slice none 0 0], .bool true]) ?_ rfl ⟨rfl, ?_⟩
    · simp [results, Tryz.results13, go_sem, r0, r1, r2, r3]
    · exact ((((HB3.out.setCell (p := ⟨w.heap.size, 0, none⟩) (by simp) _).setCell (p := ⟨w.heap.size, 1, none⟩) (by simp) _).setCell (p := ⟨w.heap.size, 2, none⟩) (by simp) _).setCell (p := ⟨w.heap.size, 3, none⟩) (by simp) _).drew
end Go.Proofs.YtchmhdmapknmfaaGreatDoor
