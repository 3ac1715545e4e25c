/-
  The reader of JSON: a value that is a string without escapes; JRead of it.
-/
import Derived.Test.YtchmhdmapknmfaaGreatDoorEg
import Derived.Test.YtchmhdmapknmfaaGreatDoorEc
namespace Go.Proofs.YtchmhdmapknmfaaGreatDoor
open Go.RowKit

theorem JR.alloc {q : Nat} {s : ByteArray} {k d : Int} {w : World} (h : JR q s k d w) (o : Obj) : JR q s k d (w.alloc o) := by
  unfold JR
  rw [heap_alloc_old w o (lt_of_block h)]
  exact h

theorem JR.far {q : Nat} {s : ByteArray} {k d : Int} {w : World} (h : JR q s k d w) (a : Addr) (ha : a.block ≠ q) (v : Value) : JR q s k d (w.setCell a v) := by
  unfold JR
  rw [Below.heap_setCell _ _ _ _ (Ne.symm ha)]
  exact h

set_option maxRecDepth 100000 in
set_option maxHeartbeats 400000 in
theorem close66 {q : Nat} {s : ByteArray} {k : Int} (c : Nat) (u : FrameMode) (w : World) (h : JR q s k 1 w) (hc : w.cell? ⟨c, 0, none⟩ = some (.pointer (some ⟨q, 0, none⟩))) :
    CallsD Tryz.prog 66 #[.pointer (some ⟨c, 0, none⟩)] u w fun e u' w' => u' = u ∧ e = .returned (.tuple #[]) ∧ w' = w.setCell ⟨q, 2, none⟩ (.int .i64 0) := by
  obtain ⟨c0, c1, c2, z1, z2⟩ := h.cells
  clear h
  go_enter_d Tryz.func66, Tryz.ntmps66
  go_wp2
  go_end0
  exact ⟨rfl, rfl⟩

theorem qt_size {s : ByteArray} {T : List UInt8} (h : bts s = qt T) : s.size = T.length + 2 := by
  rw [← bts_length, h]
  simp [qt]

theorem qt_head {s : ByteArray} {T : List UInt8} (h : bts s = qt T) (hlt : 0 < s.size) : s[0] = 34 := by
  obtain ⟨_, hb⟩ := at_head (s := s) (k := 0) (c := 34) (l := T ++ [34]) (by rw [List.drop_zero]; exact h)
  exact hb

/-- A letter that does not stand at the head, or does. -/
theorem qt_piece {s : ByteArray} {T : List UInt8} (h : bts s = qt T) (p : ByteArray) (c : UInt8) (hp : p.toList = [c]) (h1 : p.size = 1) : ((s.extract 0 (0 + p.size)).toList == p.toList) = (c == 34) := by
  rw [hp, sub_pre s 0 p.size [c] (by rw [h1]; rfl) (by rw [h1, qt_size h]; omega), List.drop_zero, h]
  show (c == 34 && Ly.pre [] _) = _
  rw [show Ly.pre [] (T ++ [34]) = true from rfl, Bool.and_true]

theorem cell_far {w : World} {a b : Addr} {v u : Value} (h : w.cell? b = some v) (hne : a ≠ b) : (w.setCell a u).cell? b = some v := by
  rw [World.cell?_setCell_other w a b u hne]
  exact h

theorem put4 {w : World} {b : Nat} {t : TypeId} {u0 u1 u2 u3 : Value} (h : w.heap[b]? = some (.cells #[u0, u1, u2, u3] t (0, 0))) (v0 v1 v2 v3 : Value) :
    ((((w.setCell ⟨b, 0, none⟩ v0).setCell ⟨b, 1, none⟩ v1).setCell ⟨b, 2, none⟩ v2).setCell ⟨b, 3, none⟩ v3).heap[b]? = some (.cells #[v0, v1, v2, v3] t (0, 0)) :=
  heap_set (cs := [v0, v1, v2, u3]) (heap_set (cs := [v0, v1, u2, u3]) (heap_set (cs := [v0, u1, u2, u3]) (heap_set (cs := [u0, u1, u2, u3]) h 0 v0) 1 v1) 2 v2) 3 v3

/-- What holds within value: the reader, the two blocks that the call made. -/
structure VS (q : Nat) (s : ByteArray) (k d : Int) (w0 w : World) : Prop where
  lt : q < w0.heap.size
  j : JR q s k d w
  p : w.heap[w0.heap.size]? = some (.cells #[.pointer (some ⟨q, 0, none⟩)] 63 (0, 0))
  v : w.heap[w0.heap.size + 1]? = some (.cells #[.int .i64 0, .string ⟨#[]⟩, .slice none 0 0, .slice none 0 0] 25 (0, 0))
  k : Keeps w0.heap.size q w0 w

theorem VS.size {q : Nat} {s : ByteArray} {k d : Int} {w0 w : World} (h : VS q s k d w0 w) : w0.heap.size + 1 < w.heap.size := lt_of_block h.v

theorem VS.step {q : Nat} {s : ByteArray} {k d k' d' : Int} {w0 w w' : World} (h : VS q s k d w0 w) (hJ : JR q s k' d' w') (hk : Keeps w.heap.size q w w') : VS q s k' d' w0 w' := by
  have h1 := h.size
  have h2 := h.lt
  refine ⟨h.lt, hJ, ?_, ?_, h.k.trans ⟨hk.os, hk.tape, hk.output, hk.size, fun j hj hb => hk.block j (by omega) hb⟩⟩
  · rw [hk.block _ (by omega) (by omega)]
    exact h.p
  · rw [hk.block _ (by omega) (by omega)]
    exact h.v

theorem VS.below {q : Nat} {s : ByteArray} {k d : Int} {w0 w w' : World} (h : VS q s k d w0 w) (hb : Below w.heap.size w w') : VS q s k d w0 w' := h.step (h.j.below hb h.j.lt) (Keeps.of_below hb)

theorem VS.cells {q : Nat} {s : ByteArray} {k d : Int} {w0 w : World} (h : VS q s k d w0 w) :
    w.cell? ⟨w0.heap.size, 0, none⟩ = some (.pointer (some ⟨q, 0, none⟩)) ∧ w.cell? ⟨w0.heap.size + 1, 0, none⟩ = some (.int .i64 0) ∧ w.cell? ⟨w0.heap.size + 1, 1, none⟩ = some (.string ⟨#[]⟩) ∧
      w.cell? ⟨w0.heap.size + 1, 2, none⟩ = some (.slice none 0 0) ∧ w.cell? ⟨w0.heap.size + 1, 3, none⟩ = some (.slice none 0 0) ∧
      ∀ i, w.frozen? ⟨w0.heap.size + 1, i, none⟩ = false := by
  have h1 := h.p
  have h2 := h.v
  simp [World.cell?, World.frozen?, h1, h2]

theorem VS.start {q : Nat} {s : ByteArray} {k d : Int} {w : World} (h : JR q s k d w) :
    VS q s k d w ((w.alloc (.cells #[.pointer (some ⟨q, 0, none⟩)] 63)).alloc (.cells #[.int .i64 0, .string ⟨#[]⟩, .slice none 0 0, .slice none 0 0] 25)) := by
  refine ⟨h.lt, (h.alloc _).alloc _, ?_, ?_, Keeps.of_below (((Below.refl _ w).alloc (Nat.le_refl _) _).alloc (by simp) _)⟩
  · rw [heap_alloc_old _ _ (by simp)]
    exact heap_alloc_new w _
  · have := heap_alloc_new (w.alloc (.cells #[.pointer (some ⟨q, 0, none⟩)] 63)) (.cells #[.int .i64 0, .string ⟨#[]⟩, .slice none 0 0, .slice none 0 0] 25)
    simpa using this

set_option maxRecDepth 100000 in
set_option maxHeartbeats 1000000 in
theorem value_text {q : Nat} {s : ByteArray} {T : List UInt8} (w : World) (h : JR q s 0 0 w) (hT : Lib.Utf8Tabs 1 2 w) (hq : 11 ≤ q) (hs : s.size ≤ 1000000) (he : bts s = qt T) (hc : Clean T) :
    Calls Tryz.prog 34 #[.pointer (some ⟨q, 0, none⟩)] w fun r w' => r = .returned (.tuple #[.agg #[.int .i64 4, .string ⟨T.toArray⟩, .slice none 0 0, .slice none 0 0], .bool true]) ∧ JR q s ((T.length + 2 : Nat) : Int) 0 w' ∧ Keeps w.heap.size q w w' := by
  have H := Lib.hid h
  have HT := Lib.hid hT
  have hqH := h.lt
  have hsz := qt_size he
  have Hbl := Lib.hid (fun (W : World) (hW : JR q s ((0 : Nat) : Int) 0 W) => blanks_none W hW (by omega) (fun hlt => by rw [qt_head he hlt]; decide))
  have Hh1 := Lib.hid (fun (W : World) (hW : JR q s ((0 : Nat) : Int) 1 W) => has_no ⟨#[123]⟩ W hW hs (by show 0 + 1 ≤ s.size; omega) (qt_piece he ⟨#[123]⟩ 123 (Lib.toList_data _) rfl))
  have Hh2 := Lib.hid (fun (W : World) (hW : JR q s ((0 : Nat) : Int) 1 W) => has_no ⟨#[91]⟩ W hW hs (by show 0 + 1 ≤ s.size; omega) (qt_piece he ⟨#[91]⟩ 91 (Lib.toList_data _) rfl))
  have Hh3 := Lib.hid (fun (W : World) (B : Nat) (hW : JR q s ((0 : Nat) : Int) 1 W) => has_yes (B := B) ⟨#[34]⟩ W hW hs (by show 0 + 1 ≤ s.size; omega) (qt_piece he ⟨#[34]⟩ 34 (Lib.toList_data _) rfl))
  have Htx := Lib.hid (fun (W : World) (B : Nat) (hW : JR q s ((1 : Nat) : Int) 1 W) (hTW : Lib.Utf8Tabs 1 2 W) (h1 : q < B) (h2 : B ≤ W.heap.size) => text_clean (B := B) W hW hTW hq h1 h2 hs (by rw [he]; rfl) hc)
  have Hsz := Lib.hid hsz
  clear h hT he hc hsz
  go_enter_defers Tryz.func34, Tryz.ntmps34
  go_wp2_with fail
  refine (Hbl.out _ ((H.out.alloc _).alloc _)).mono ?_
  rintro r w1 ⟨rfl, -, hb⟩
  have hV := (VS.start H.out).below hb
  have HV1 := Lib.hid hV
  obtain ⟨p0, -⟩ := hV.cells
  obtain ⟨c0, c1, c2, z1, z2⟩ := hV.j.cells
  clear hb hV
  go_wp2_with fail
  refine (Hh1.out _ (HV1.out.j.deep 1)).mono ?_
  rintro r w2 ⟨rfl, -, hb⟩
  have hV := (HV1.out.step (HV1.out.j.deep 1) (Keeps.setCell (b := q) (p := ⟨q, 2, none⟩) (Keeps.refl _ _ _) (.inl rfl) _)).below hb
  have HV2 := Lib.hid hV
  obtain ⟨p0', -⟩ := hV.cells
  clear hb hV c0 c1 c2 z1 z2 p0
  go_wp2_with fail
  refine (Hh2.out _ HV2.out.j).mono ?_
  rintro r w3 ⟨rfl, -, hb⟩
  have hV := HV2.out.below hb
  have HV3 := Lib.hid hV
  obtain ⟨p0, -⟩ := hV.cells
  clear hb hV p0'
  go_wp2_with fail
  refine (Hh3.out _ w3.heap.size HV3.out.j).mono ?_
  rintro r w4 ⟨rfl, hJ, hk⟩
  have hV := HV3.out.step hJ hk
  have HV4 := Lib.hid hV
  obtain ⟨p0', -⟩ := hV.cells
  clear hJ hk hV p0
  have hB4 : q < w4.heap.size := by have := HV4.out.size; have := HV4.out.lt; omega
  go_wp2_with fail
  refine (Htx.out _ w4.heap.size HV4.out.j (utf8Tabs_keeps HT.out HV4.out.k hq (by omega)) hB4 (Nat.le_refl _)).mono ?_
  rintro r w5 ⟨rfl, hJ, hk⟩
  have hV := HV4.out.step hJ hk
  have HV5 := Lib.hid hV
  obtain ⟨p0, v0, v1, v2, v3, fz⟩ := hV.cells
  have y0 := fz 0
  have y1 := fz 1
  have y2 := fz 2
  have y3 := fz 3
  clear hJ hk hV p0' fz
  go_wp2_with fail
  have hJ4 := ((((HV5.out.j.far ⟨w.heap.size + 1, 0, none⟩ (by simp; omega) (.int .i64 4)).far ⟨w.heap.size + 1, 1, none⟩ (by simp; omega) (.string ⟨T.toArray⟩)).far ⟨w.heap.size + 1, 2, none⟩ (by simp; omega) (.slice none 0 0)).far ⟨w.heap.size + 1, 3, none⟩ (by simp; omega) (.slice none 0 0))
  have hp4 : ((((w5.setCell ⟨w.heap.size + 1, 0, none⟩ (.int .i64 4)).setCell ⟨w.heap.size + 1, 1, none⟩ (.string ⟨T.toArray⟩)).setCell ⟨w.heap.size + 1, 2, none⟩ (.slice none 0 0)).setCell ⟨w.heap.size + 1, 3, none⟩ (.slice none 0 0)).cell? ⟨w.heap.size, 0, none⟩ = some (.pointer (some ⟨q, 0, none⟩)) :=
    cell_far (cell_far (cell_far (cell_far p0 (by simp)) (by simp)) (by simp)) (by simp)
  refine leaves_cons (f := 66) (args := #[.pointer (some ⟨w.heap.size, 0, none⟩)]) (by simp) (by simp [go_sem]) ?_
  refine (close66 w.heap.size .returning _ hJ4 hp4).mono ?_
  have hb4 := put4 HV5.out.v (.int .i64 4) (.string ⟨T.toArray⟩) (.slice none 0 0) (.slice none 0 0)
  have hk4 : Keeps w.heap.size q w ((((w5.setCell ⟨w.heap.size + 1, 0, none⟩ (.int .i64 4)).setCell ⟨w.heap.size + 1, 1, none⟩ (.string ⟨T.toArray⟩)).setCell ⟨w.heap.size + 1, 2, none⟩ (.slice none 0 0)).setCell ⟨w.heap.size + 1, 3, none⟩ (.slice none 0 0)) :=
    Keeps.setCell (Keeps.setCell (Keeps.setCell (Keeps.setCell HV5.out.k (.inr (by simp)) _) (.inr (by simp)) _) (.inr (by simp)) _) (.inr (by simp)) _
  generalize ((((w5.setCell ⟨w.heap.size + 1, 0, none⟩ (.int .i64 4)).setCell ⟨w.heap.size + 1, 1, none⟩ (.string ⟨T.toArray⟩)).setCell ⟨w.heap.size + 1, 2, none⟩ (.slice none 0 0)).setCell ⟨w.heap.size + 1, 3, none⟩ (.slice none 0 0)) = W at *
  rintro e u' w'' ⟨rfl, rfl, rfl⟩
  have hne : w.heap.size + 1 ≠ q := by omega
  have hb5 : (W.setCell ⟨q, 2, none⟩ (.int .i64 0)).heap[w.heap.size + 1]? = some (.cells #[.int .i64 4, .string ⟨T.toArray⟩, .slice none 0 0, .slice none 0 0] 25 (0, 0)) := by
    rw [Below.heap_setCell _ _ _ _ hne]
    exact hb4
  have hJ5 : JR q s ((T.length + 2 : Nat) : Int) 0 (W.setCell ⟨q, 2, none⟩ (.int .i64 0)) := by
    have := hJ4.deep 0
    rw [show ((T.length + 2 : Nat) : Int) = ((1 + T.length + 1 : Nat) : Int) by omega]
    exact this
  have hk5 : Keeps w.heap.size q w (W.setCell ⟨q, 2, none⟩ (.int .i64 0)) := Keeps.setCell (b := q) (p := ⟨q, 2, none⟩) hk4 (.inl rfl) _
  generalize W.setCell ⟨q, 2, none⟩ (.int .i64 0) = W6 at *
  obtain ⟨r0, r1, r2, r3⟩ := cells4 hb5
  refine ⟨.tuple #[.agg #[.int .i64 4, .string ⟨T.toArray⟩, .slice none 0 0, .slice none 0 0], .bool true], ?_, rfl, hJ5, hk5⟩
  clear hb4 hb5 hJ4 hJ5 hk4 hk5
  simp [results, Tryz.results34, go_sem, r0, r1, r2, r3]
end Go.Proofs.YtchmhdmapknmfaaGreatDoor
