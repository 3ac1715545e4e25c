/-
  Loggers' names: zap.New, Logger.Named, Logger.Name.
-/
import Derived.Test.YtchmhdmapknmfaaGreatDoorBm
import Derived.Laws.EntriesVeiled
namespace Go.Proofs.YtchmhdmapknmfaaGreatDoor
open Go.RowKit

/-- Block l is a logger of this name. -/
def Log (l : Nat) (nm : ByteArray) (w : World) : Prop :=
  w.heap[l]? = some (.cells #[.iface 199 (.agg #[]), .string nm, .int .i64 0, .int .i32 0, .string ⟨#[]⟩, .int .i64 0] 167 (0, 0))

theorem cells6 {w : World} {e : Nat} {v0 v1 v2 v3 v4 v5 : Value} {t : TypeId} (h : w.heap[e]? = some (.cells #[v0, v1, v2, v3, v4, v5] t (0, 0))) :
    w.cell? ⟨e, 0, none⟩ = some v0 ∧ w.cell? ⟨e, 1, none⟩ = some v1 ∧ w.cell? ⟨e, 2, none⟩ = some v2 ∧ w.cell? ⟨e, 3, none⟩ = some v3 ∧ w.cell? ⟨e, 4, none⟩ = some v4 ∧ w.cell? ⟨e, 5, none⟩ = some v5 := by
  simp [World.cell?, h]

theorem eql_nilIface164 (w : World) : (binOp .eql 164 .nilIface .nilIface).run Tryz.prog w = .ok (.bool true) w := by kernel_rfl

theorem heap_new (w : World) (o : Obj) : (w.alloc o).heap[w.heap.size]? = some o := by
  show (w.heap.push o)[w.heap.size]? = _
  rw [Array.getElem?_push, if_pos rfl]

set_option maxRecDepth 100000 in
set_option maxHeartbeats 400000 in
theorem new_any (w : World) : Calls Tryz.prog 56 #[.nilIface] w fun r w' => r = .returned (.pointer (some ⟨w.heap.size, 0, none⟩)) ∧ Log w.heap.size ⟨#[]⟩ w' ∧ Below w.heap.size w w' := by
  have he := fun w => eql_nilIface164 w
  go_enter Tryz.func56, Tryz.ntmps56
  go_wp2
  go_ret
  exact ⟨rfl, heap_new _ _, (Below.refl _ _).alloc (Nat.le_refl _) _⟩

set_option maxRecDepth 100000 in
set_option maxHeartbeats 400000 in
theorem clone_any (l : Nat) (nm : ByteArray) (w : World) (h : Log l nm w) : Calls Tryz.prog 99 #[.pointer (some ⟨l, 0, none⟩)] w fun r w' => r = .returned (.pointer (some ⟨w.heap.size, 0, none⟩)) ∧ Log w.heap.size nm w' ∧ Below w.heap.size w w' := by
  obtain ⟨c0, c1, c2, c3, c4, c5⟩ := cells6 h
  clear h
  go_enter Tryz.func99, Tryz.ntmps99
  go_wp2
  go_ret
  exact ⟨rfl, heap_new _ _, (Below.refl _ _).alloc (Nat.le_refl _) _⟩

set_option maxRecDepth 100000 in
set_option maxHeartbeats 400000 in
theorem name_any (l : Nat) (nm : ByteArray) (w : World) (h : Log l nm w) : Calls Tryz.prog 58 #[.pointer (some ⟨l, 0, none⟩)] w fun r w' => r = .returned (.string nm) ∧ w = w' := by
  obtain ⟨c0, c1, c2, c3, c4, c5⟩ := cells6 h
  clear h
  go_enter Tryz.func58, Tryz.ntmps58
  go_wp2
  go_ret
  exact ⟨rfl, rfl⟩

/-- A name with another one behind it. -/
def nameJ (l x : List UInt8) : List UInt8 := if x = [] then l else if l = [] then x else l ++ 46 :: x

theorem toList_bts (s : ByteArray) : s.toList = bts s := Lib.toList_data s

/-- What Named leaves. -/
def NamedPost (l : Nat) (nm s : ByteArray) (w : World) (r : Ending) (w' : World) : Prop :=
  ∃ l' nm', r = .returned (.pointer (some ⟨l', 0, none⟩)) ∧ Log l' nm' w' ∧ l' < w'.heap.size ∧ (l' = l ∨ w.heap.size ≤ l') ∧ bts nm' = nameJ (bts nm) (bts s) ∧ Below w.heap.size w w'

theorem log_set {l : Nat} {nm x : ByteArray} {w : World} (h : Log l nm w) : Log l x (w.setCell ⟨l, 1, none⟩ (.string x)) := by
  unfold Log at *
  have hlt := lt_of_block h
  rw [Array.getElem?_eq_getElem hlt] at h
  have h' := Option.some.inj h
  show (w.heap.modify l _)[l]? = _
  rw [Array.getElem?_eq_getElem (by simpa using hlt), Array.getElem_modify_self, h']
  rfl

theorem ne_empty {s : ByteArray} (h : bts s ≠ []) : s.toList.isEmpty = false := by
  rw [toList_bts]
  cases hx : bts s with
  | nil => exact absurd hx h
  | cons a b => rfl

theorem join2 (nm s : ByteArray) : Lib.join ([nm, s].map (·.data.toList)) [46] = bts nm ++ 46 :: bts s := by
  simp [Lib.join, bts]

theorem log_frozen {l : Nat} {nm : ByteArray} {w : World} (h : Log l nm w) (i : Nat) : w.frozen? ⟨l, i, none⟩ = false := by
  simp [World.frozen?, show w.heap[l]? = _ from h]

set_option maxRecDepth 100000 in
set_option maxHeartbeats 400000 in
theorem named_any (l : Nat) (nm s : ByteArray) (w : World) (h : Log l nm w) (hl : l < w.heap.size) (hn : nm.size + s.size ≤ 1000000) :
    Calls Tryz.prog 57 #[.pointer (some ⟨l, 0, none⟩), .string s] w (NamedPost l nm s w) := by
  obtain ⟨c0, c1, c2, c3, c4, c5⟩ := cells6 h
  have Hc := Lib.hid (clone_any l nm w h)
  have H := Lib.hid h
  by_cases hs : bts s = []
  · have e1 : s.toList.isEmpty = true := by rw [toList_bts, hs]; rfl
    have e2 : s.toList = [] := by rw [toList_bts, hs]
    have Hs := Lib.hid hs
    clear hs h
    go_enter Tryz.func57, Tryz.ntmps57
    go_wp2_with fail
    go_ret
    exact ⟨l, nm, rfl, H.out, hl, .inl rfl, by rw [Hs.out]; rfl, Below.refl _ _⟩
  · have e1 := ne_empty hs
    have Hs := Lib.hid hs
    by_cases hm : bts nm = []
    · have f1 : nm.toList.isEmpty = true := by rw [toList_bts, hm]; rfl
      have f2 : nm.toList = [] := by rw [toList_bts, hm]
      have Hm := Lib.hid hm
      clear hs hm h
      go_enter Tryz.func57, Tryz.ntmps57
      go_wp2_with fail
      refine Hc.out.mono ?_
      rintro r w1 ⟨rfl, hL, hb⟩
      have HL := Lib.hid hL
      have Hb := Lib.hid hb
      have d1 : w1.cell? ⟨l, 1, none⟩ = some (.string nm) := by rw [hb.cell (by exact hl)]; exact c1
      obtain ⟨-, g1, -, -, -, -⟩ := cells6 hL
      have g2 := log_frozen hL 1
      clear hL hb
      go_wp2
      go_ret
      exact ⟨w.heap.size, s, rfl, log_set HL.out, by have := lt_of_block HL.out; simpa [World.setCell] using this, .inr (Nat.le_refl _), by unfold nameJ; rw [if_neg Hs.out, if_pos Hm.out], Hb.out.setCell (p := ⟨w.heap.size, 1, none⟩) (Nat.le_refl _) _⟩
    · have f1 := ne_empty hm
      have Hm := Lib.hid hm
      clear hs hm h
      go_enter Tryz.func57, Tryz.ntmps57
      go_wp2_with fail
      refine Hc.out.mono ?_
      rintro r w1 ⟨rfl, hL, hb⟩
      have HL := Lib.hid hL
      have Hb := Lib.hid hb
      have d1 : w1.cell? ⟨l, 1, none⟩ = some (.string nm) := by rw [hb.cell (by exact hl)]; exact c1
      obtain ⟨-, g1, -, -, -, -⟩ := cells6 hL
      have hlt1 := lt_of_block hL
      clear hL hb
      have Hj := Lib.hid (Tryz.strings_Join w1.heap.size 0 2 [nm, s] ⟨#[46]⟩ (w1.alloc (.cells #[.string nm, .string s] 9)) (by
        intro j x hx
        rw [World.cell?, show (w1.alloc (.cells #[.string nm, .string s] 9)).heap[w1.heap.size]? = _ from heap_new _ _]
        rcases j with _ | _ | j
        · simp at hx; subst hx; rfl
        · simp at hx; subst hx; rfl
        · simp at hx) (by simp) (by simp) (by simp) (by
          have e := join2 nm s
          rw [show (⟨#[46]⟩ : ByteArray).data.toList = [46] from rfl, e]
          have h1 := bts_length nm
          have h2 := bts_length s
          simp only [List.length_append, List.length_cons]
          omega))
      rw [show (⟨#[46]⟩ : ByteArray).data.toList = [46] from rfl, join2] at Hj
      go_wp2_with fail
      refine Hj.out.mono ?_
      rintro r w2 ⟨rfl, hb2⟩
      have hbb : Below w1.heap.size w1 w2 := ((Below.refl _ w1).alloc (Nat.le_refl _) _).trans (hb2.mono (by simp))
      have hL2 : Log w.heap.size nm w2 := by unfold Log; rw [hbb.block _ hlt1]; exact HL.out
      have HL2 := Lib.hid hL2
      have Hb2 := Lib.hid (Hb.out.trans (hbb.mono Hb.out.size))
      obtain ⟨-, k1, -, -, -, -⟩ := cells6 hL2
      have k2 := log_frozen hL2 1
      clear hL2 hb2 hbb Hj
      go_wp2
      go_ret
      exact ⟨w.heap.size, ⟨(bts nm ++ 46 :: bts s).toArray⟩, rfl, log_set HL2.out, by have := lt_of_block HL2.out; simpa [World.setCell] using this, .inr (Nat.le_refl _), by unfold nameJ; rw [if_neg Hs.out, if_neg Hm.out], Hb2.out.setCell (p := ⟨w.heap.size, 1, none⟩) (Nat.le_refl _) _⟩
end Go.Proofs.YtchmhdmapknmfaaGreatDoor
