/-
  The reader of JSON: blanks, letters that stand there, a string without escapes.
-/
import Derived.Test.YtchmhdmapknmfaaGreatDoorEb
import Derived.Test.YtchmhdmapknmfaaGreatDoorGe
import Derived.Test.YtchmhdmapknmfaaGreatDoorBo
import Derived.Deep.QuietTactic
import Derived.BigQuiet
import Derived.StillTailTactics
import Derived.Defers
namespace Go.Proofs.YtchmhdmapknmfaaGreatDoor
open Go.RowKit

/-- Block q is a reader: the text, the place, how deep. -/
def JR (q : Nat) (s : ByteArray) (k d : Int) (w : World) : Prop := w.heap[q]? = some (.cells #[.string s, .int .i64 k, .int .i64 d] 65 (0, 0))

theorem JR.cells {q : Nat} {s : ByteArray} {k d : Int} {w : World} (h : JR q s k d w) :
    w.cell? ⟨q, 0, none⟩ = some (.string s) ∧ w.cell? ⟨q, 1, none⟩ = some (.int .i64 k) ∧ w.cell? ⟨q, 2, none⟩ = some (.int .i64 d) ∧ w.frozen? ⟨q, 1, none⟩ = false ∧ w.frozen? ⟨q, 2, none⟩ = false := by
  unfold JR at h
  simp [World.cell?, World.frozen?, h]

theorem JR.at {q : Nat} {s : ByteArray} {k d : Int} {w : World} (h : JR q s k d w) (k' : Int) : JR q s k' d (w.setCell ⟨q, 1, none⟩ (.int .i64 k')) :=
  heap_set (cs := [.string s, .int .i64 k, .int .i64 d]) h 1 _
theorem JR.deep {q : Nat} {s : ByteArray} {k d : Int} {w : World} (h : JR q s k d w) (d' : Int) : JR q s k d' (w.setCell ⟨q, 2, none⟩ (.int .i64 d')) :=
  heap_set (cs := [.string s, .int .i64 k, .int .i64 d]) h 2 _
theorem JR.lt {q : Nat} {s : ByteArray} {k d : Int} {w : World} (h : JR q s k d w) : q < w.heap.size := lt_of_block h
theorem JR.below {B q : Nat} {s : ByteArray} {k d : Int} {w w' : World} (h : JR q s k d w) (hb : Below B w w') (hq : q < B) : JR q s k d w' := by
  unfold JR
  rw [hb.block q hq]
  exact h

theorem below_drewN {B : Nat} {a w : World} (h : Below B a w) (n : Nat) : Below B a (w.drewN n) := h.trans ⟨rfl, rfl, rfl, Nat.le_refl _, fun _ _ => rfl⟩
theorem keeps_drewN {B b : Nat} {a w : World} (h : Keeps B b a w) (n : Nat) : Keeps B b a (w.drewN n) := h.trans ⟨rfl, rfl, rfl, Nat.le_refl _, fun _ _ _ => rfl⟩

set_option maxRecDepth 100000 in
set_option maxHeartbeats 400000 in
theorem blanks_none {q k : Nat} {d : Int} {s : ByteArray} (w : World) (h : JR q s k d w) (hk : k ≤ s.size) (hne : ∀ hlt : k < s.size, s[k] ≠ 32 ∧ s[k] ≠ 9 ∧ s[k] ≠ 10 ∧ s[k] ≠ 13) :
    Calls Tryz.prog 35 #[.pointer (some ⟨q, 0, none⟩)] w fun r w' => r = .returned (.tuple #[]) ∧ JR q s k d w' ∧ Below w.heap.size w w' := by
  have H := Lib.hid h
  obtain ⟨c0, c1, c2, z1, z2⟩ := h.cells
  clear h
  by_cases hlt : k < s.size
  · have hn := hne hlt
    have key : ∀ c : UInt8, s[k] ≠ c → ((s[k].toNat : Int) == (c.toNat : Int)) = false := by
      intro c hc
      rw [beq_eq_false_iff_ne]
      intro e
      exact hc (UInt8.toNat_inj.1 (by omega))
    have f1 : ((s[k].toNat : Int) == 32) = false := key 32 hn.1
    have f2 : ((s[k].toNat : Int) == 9) = false := key 9 hn.2.1
    have f3 : ((s[k].toNat : Int) == 10) = false := key 10 hn.2.2.1
    have f4 : ((s[k].toNat : Int) == 13) = false := key 13 hn.2.2.2
    have hlt' : (k : Int) < (s.size : Int) := by omega
    clear hne hn key
    go_enter Tryz.func35, Tryz.ntmps35
    go_wp2_with fail
    go_loopw [] (fun wr => wr = w) (fun _ => 0)
    case atStart => rfl
    case round =>
      obtain rfl := hrel
      go_wp2_with fail
      go_quiet (fail)
      go_wp2
      go_end0
      exact ⟨rfl, H.out, below_drewN (Below.refl _ _) _⟩
  · have hd : decide ((k : Int) < (s.size : Int)) = false := by rw [decide_eq_false_iff_not]; omega
    clear hne
    go_enter Tryz.func35, Tryz.ntmps35
    go_wp2_with fail
    go_loopw [] (fun wr => wr = w) (fun _ => 0)
    case atStart => rfl
    case round =>
      obtain rfl := hrel
      go_wp2_with fail
      go_quiet (fail)
      go_wp2
      go_end0
      exact ⟨rfl, H.out, below_drewN (Below.refl _ _) _⟩

set_option maxRecDepth 100000 in
set_option maxHeartbeats 400000 in
theorem has_yes {B q k : Nat} {d : Int} {s : ByteArray} (p : ByteArray) (w : World) (h : JR q s k d w) (hs : s.size ≤ 1000000) (hk : k + p.size ≤ s.size) (he : ((s.extract k (k + p.size)).toList == p.toList) = true) :
    Calls Tryz.prog 67 #[.pointer (some ⟨q, 0, none⟩), .string p] w fun r w' => r = .returned (.bool true) ∧ JR q s ((k + p.size : Nat) : Int) d w' ∧ Keeps B q w w' := by
  have H := Lib.hid h
  obtain ⟨c0, c1, c2, z1, z2⟩ := h.cells
  have hd : decide ((s.size : Int) - (k : Int) < (p.size : Int)) = false := by rw [decide_eq_false_iff_not]; omega
  have hb1 : (k : Int) + (p.size : Int) ≤ (s.size : Int) := by omega
  have hb2 : (k : Int) ≤ (k : Int) + (p.size : Int) := by omega
  have ecast := Lib.hid (show (k : Int) + (p.size : Int) = ((k + p.size : Nat) : Int) by omega)
  clear h
  go_enter Tryz.func67, Tryz.ntmps67
  go_wp2_with fail
  go_quiet (fail)
  go_wp2
  go_ret
  exact ⟨rfl, by rw [← ecast.out]; exact H.out.at _, Keeps.setCell (b := q) (p := ⟨q, 1, none⟩) (keeps_drewN (Keeps.refl _ _ _) _) (.inl rfl) _⟩

set_option maxRecDepth 100000 in
set_option maxHeartbeats 400000 in
theorem has_no {q k : Nat} {d : Int} {s : ByteArray} (p : ByteArray) (w : World) (h : JR q s k d w) (hs : s.size ≤ 1000000) (hk : k + p.size ≤ s.size) (he : ((s.extract k (k + p.size)).toList == p.toList) = false) :
    Calls Tryz.prog 67 #[.pointer (some ⟨q, 0, none⟩), .string p] w fun r w' => r = .returned (.bool false) ∧ JR q s k d w' ∧ Below w.heap.size w w' := by
  have H := Lib.hid h
  obtain ⟨c0, c1, c2, z1, z2⟩ := h.cells
  have hd : decide ((s.size : Int) - (k : Int) < (p.size : Int)) = false := by rw [decide_eq_false_iff_not]; omega
  have hb1 : (k : Int) + (p.size : Int) ≤ (s.size : Int) := by omega
  have hb2 : (k : Int) ≤ (k : Int) + (p.size : Int) := by omega
  clear h
  go_enter Tryz.func67, Tryz.ntmps67
  go_wp2_with fail
  go_quiet (fail)
  go_wp2
  go_ret
  exact ⟨rfl, H.out, below_drewN (Below.refl _ _) _⟩
end Go.Proofs.YtchmhdmapknmfaaGreatDoor
