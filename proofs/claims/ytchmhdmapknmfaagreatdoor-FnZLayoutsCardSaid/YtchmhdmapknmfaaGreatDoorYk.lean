/-
  Joined: Rl Ri Rm Rn Ro Rp Rq. (Joined by merge.py out of several texts.)
-/
import Derived.Test.YtchmhdmapknmfaaGreatDoorYi
import Derived.Test.YtchmhdmapknmfaaGreatDoorYh
import Derived.Deep.Cut
import Derived.Test.YtchmhdmapknmfaaGreatDoorYb
import Derived.Test.YtchmhdmapknmfaaGreatDoorYj
import Derived.Test.YtchmhdmapknmfaaGreatDoorYg
import Derived.SevenTiedAt
import Derived.Lib.SmallJoins
import Derived.Test.YtchmhdmapknmfaaGreatDoorF7

/-
  zWritten: up to its switch.
-/
namespace Go.Proofs.YtchmhdmapknmfaaGreatDoor
open Go.RowKit Ly
attribute [local go_sem ↓] Go.wp_at_zero Go.wp_at_succ

def strV (l : List UInt8) : Value := .string ⟨l.toArray⟩

/-- The blocks that zWritten lays: the moment of the law, the moment of the calendar, the names of the months and of the days. -/
structure WkW (w0 : World) (off : Int) (Z : ByteArray) (m : Mo) (wr : World) : Prop where
  below : Below w0.heap.size w0 wr
  t2 : wr.cell? ⟨w0.heap.size, 2, none⟩ = some (.int .i64 off)
  t3 : wr.cell? ⟨w0.heap.size, 3, none⟩ = some (.string Z)
  c0 : wr.cell? ⟨w0.heap.size + 1, 0, none⟩ = some (.int .i64 (m.y : Int))
  c1 : wr.cell? ⟨w0.heap.size + 1, 1, none⟩ = some (.int .i64 (m.mo : Int))
  c2 : wr.cell? ⟨w0.heap.size + 1, 2, none⟩ = some (.int .i64 (m.d : Int))
  c3 : wr.cell? ⟨w0.heap.size + 1, 3, none⟩ = some (.int .i64 (m.h : Int))
  c4 : wr.cell? ⟨w0.heap.size + 1, 4, none⟩ = some (.int .i64 (m.mi : Int))
  c5 : wr.cell? ⟨w0.heap.size + 1, 5, none⟩ = some (.int .i64 (m.s : Int))
  c6 : wr.cell? ⟨w0.heap.size + 1, 6, none⟩ = some (.int .i64 (m.na : Int))
  mon : ∀ i, i < 12 → wr.cell? ⟨w0.heap.size + 2, i, none⟩ = some (strV (monthNames.getD i []))
  day : ∀ i, i < 7 → wr.cell? ⟨w0.heap.size + 3, i, none⟩ = some (strV (weekNames.getD i []))

theorem names_at (L : List (List UInt8)) (i : Nat) (h : i < L.length) : ((L.map strV).toArray : Array Value)[i]? = some (strV (L.getD i [])) := by
  simp [List.getElem?_eq_getElem h, List.getD_eq_getElem?_getD]

theorem wkW_new (w : World) (N off : Int) (Z : ByteArray) (m : Mo) (n : Nat) : WkW w off Z m (((((w.alloc (.cells #[.bool false, .int .i64 N, .int .i64 off, .string Z] 39)).alloc (.cells #[.int .i64 (m.y : Int), .int .i64 (m.mo : Int), .int .i64 (m.d : Int), .int .i64 (m.h : Int), .int .i64 (m.mi : Int), .int .i64 (m.s : Int), .int .i64 (m.na : Int)] 106)).alloc
    (.cells (monthNames.map strV).toArray 9)).alloc (.cells (weekNames.map strV).toArray 9)).drewN n) := by
  have a3 := heap_alloc_new (((w.alloc (.cells #[.bool false, .int .i64 N, .int .i64 off, .string Z] 39)).alloc (.cells #[.int .i64 (m.y : Int), .int .i64 (m.mo : Int), .int .i64 (m.d : Int), .int .i64 (m.h : Int), .int .i64 (m.mi : Int), .int .i64 (m.s : Int), .int .i64 (m.na : Int)] 106)).alloc (.cells (monthNames.map strV).toArray 9)) (.cells (weekNames.map strV).toArray 9)
  have a2 := heap_alloc_new ((w.alloc (.cells #[.bool false, .int .i64 N, .int .i64 off, .string Z] 39)).alloc (.cells #[.int .i64 (m.y : Int), .int .i64 (m.mo : Int), .int .i64 (m.d : Int), .int .i64 (m.h : Int), .int .i64 (m.mi : Int), .int .i64 (m.s : Int), .int .i64 (m.na : Int)] 106)) (.cells (monthNames.map strV).toArray 9)
  have a1 := heap_alloc_new (w.alloc (.cells #[.bool false, .int .i64 N, .int .i64 off, .string Z] 39)) (.cells #[.int .i64 (m.y : Int), .int .i64 (m.mo : Int), .int .i64 (m.d : Int), .int .i64 (m.h : Int), .int .i64 (m.mi : Int), .int .i64 (m.s : Int), .int .i64 (m.na : Int)] 106)
  have a0 := heap_alloc_new w (.cells #[.bool false, .int .i64 N, .int .i64 off, .string Z] 39)
  rw [← heap_alloc_old _ (.cells (weekNames.map strV).toArray 9) (lt_of_block a2)] at a2
  rw [← heap_alloc_old _ (.cells (monthNames.map strV).toArray 9) (lt_of_block a1)] at a1
  rw [← heap_alloc_old _ (.cells (weekNames.map strV).toArray 9) (lt_of_block a1)] at a1
  rw [← heap_alloc_old _ (.cells #[.int .i64 (m.y : Int), .int .i64 (m.mo : Int), .int .i64 (m.d : Int), .int .i64 (m.h : Int), .int .i64 (m.mi : Int), .int .i64 (m.s : Int), .int .i64 (m.na : Int)] 106) (lt_of_block a0)] at a0
  rw [← heap_alloc_old _ (.cells (monthNames.map strV).toArray 9) (lt_of_block a0)] at a0
  rw [← heap_alloc_old _ (.cells (weekNames.map strV).toArray 9) (lt_of_block a0)] at a0
  simp only [World.size_alloc] at a0 a1 a2 a3
  have c := fun (b i : Nat) (cs : Array Value) (t : TypeId) (h : (((((w.alloc (.cells #[.bool false, .int .i64 N, .int .i64 off, .string Z] 39)).alloc (.cells #[.int .i64 (m.y : Int), .int .i64 (m.mo : Int), .int .i64 (m.d : Int), .int .i64 (m.h : Int), .int .i64 (m.mi : Int), .int .i64 (m.s : Int), .int .i64 (m.na : Int)] 106)).alloc
    (.cells (monthNames.map strV).toArray 9)).alloc (.cells (weekNames.map strV).toArray 9)).drewN n).heap[b]? = some (.cells cs t (0, 0))) => cell_of_row _ b i cs t (0, 0) h
  refine ⟨?_, c _ _ _ _ a0, c _ _ _ _ a0, c _ _ _ _ a1, c _ _ _ _ a1, c _ _ _ _ a1, c _ _ _ _ a1, c _ _ _ _ a1, c _ _ _ _ a1, c _ _ _ _ a1, fun i hi => ?_, fun i hi => ?_⟩
  · exact ((((((Below.refl w.heap.size w).alloc (Nat.le_refl _) _).alloc (by simp) _).alloc (by simp <;> omega) _).alloc (by simp <;> omega) _).trans ⟨rfl, rfl, rfl, Nat.le_refl _, fun _ _ => rfl⟩)
  · rw [c _ i _ _ a2]
    exact names_at monthNames i hi
  · rw [c _ i _ _ a3]
    exact names_at weekNames i hi

def WkRel (w0 : World) (off : Int) (Z : ByteArray) (m : Mo) (v9 v10 : Value) (wr : World) : Prop := ∃ (k : Nat) (s : Int), v10 = .int .i64 (k : Int) ∧ v9 = .int .i64 s ∧ 1 ≤ k ∧ k ≤ m.mo ∧ s = ((zd m.y : Nat) : Int) + (m.d : Int) - 1 + ((msm (lp m.y) (k - 1) : Nat) : Int) ∧ WkW w0 off Z m wr

set_option maxRecDepth 100000 in
set_option maxHeartbeats 8000000 in
theorem written_head {x Z : ByteArray} {N off : Int} (m : Mo) (T : List UInt8) (w : World) (hp : Pow w) (hH : 11 ≤ w.heap.size) (ok : m.Ok) (hoff : off = m.off) (hzone : m.zone = bts Z) (rd : Nat) (hrd : rd < 4000000) (hday : zd m.y + msm (lp m.y) (m.mo - 1) + m.d = rd + 1) (hyd : m.yd = msm (lp m.y) (m.mo - 1) + m.d) (hwd : m.wd = (rd + 1) % 7) (hy1 : 1 ≤ m.y)
    (K : ∀ (Q : Exit → Act → World → Prop) (a : Act) (W : World) (p3 p4 q7 : Nat) (yd hf : Int) (wk : ByteArray), WtCtx w p3 p4 q7 off Z yd hf wk m W → Wt x p3 p4 q7 yd hf wk a → WtEnd w T Q → Code.wp Tryz.prog wtTail Q a W) :
    Calls Tryz.prog 54 #[moV false N off Z, atV m.y m.mo m.d m.h m.mi m.s m.na, .string x] w fun r w' => ∃ s : ByteArray, r = .returned (.string s) ∧ bts s = T ∧ Below w.heap.size w w' := by
  obtain ⟨zy, hzy⟩ : ∃ zy : Int, zy = ((zd m.y : Nat) : Int) := ⟨_, rfl⟩
  have zl := zd_le (y := m.y) (by have := ok.y; omega)
  have z0 : 0 ≤ zy := by omega
  have z1 : zy ≤ 8000000 := by omega
  have d1 : (1 : Int) ≤ (m.d : Int) := by have := ok.d1; omega
  have d2 : (m.d : Int) ≤ 31 := by have := ok.d; omega
  have Hz : Hid (∀ W, Calls Tryz.prog 92 #[.int .i64 (m.y : Int)] W fun r w' => r = .returned (.int .i64 zy) ∧ W = w') := Lib.hid (fun W => by rw [hzy]; exact zdays_any m.y m.y rfl hy1 (by have := ok.y; omega) W)
  have HzQ := Lib.hid (fun W => (Hz.out W).mono (fun r w' (h : _ ∧ _) => (⟨h.1, h.2.symm⟩ : r = .returned (.int .i64 zy) ∧ w' = W)))
  have Hm := Lib.hid (fun (k : Nat) W => zmonth_any m.y k m.y k rfl rfl hy1 (by have := ok.y; omega) W)
  have HO := Lib.hid (And.intro ok (And.intro hoff (And.intro hzone (And.intro hrd (And.intro hday (And.intro hyd (And.intro hwd (And.intro hy1 hzy))))))))
  have HP := Lib.hid (And.intro hp hH)
  have HK := Lib.hid K
  have s1 : IntKind.i64.wrap (zy + (m.d : Int)) = zy + (m.d : Int) := by rw [IntKind.wrap_i64]; omega
  have s2 : IntKind.i64.wrap (zy + (m.d : Int) - 1) = zy + (m.d : Int) - 1 := by rw [IntKind.wrap_i64]; omega
  clear hp hH ok hoff hzone hrd hday hyd hwd hy1 K hzy zl
  unfold moV atV
  go_enter Tryz.func54, Tryz.ntmps54
  go_wp2_with fail
  go_quiet ((go_at_call 92; exact Calls.quiet_of_same (HzQ.out _)))
  clear s1 s2
  go_wp2_with fail
  go_loopw [9, 10] (fun v9 v10 wr => WkRel w off Z m v9 v10 wr) (fun _ v10 _ => m.mo - (intOf v10).toNat)
  case atStart =>
    exact ⟨1, _, rfl, rfl, Nat.le_refl _, HO.out.1.mo1, by have h : zy = _ := HO.out.2.2.2.2.2.2.2.2; rw [h]; simp [msm], wkW_new w N off Z m _⟩
  case round =>
    obtain ⟨k, s, rfl, rfl, hk1, hk2, hs, hW⟩ := hrel
    have HW := Lib.hid hW
    have c0 := hW.c0
    have c1 := hW.c1
    have hms := msm_le (lp m.y) (k - 1)
    have hm12 : m.mo ≤ 12 := HO.out.1.mo
    have hzy : zy = _ := HO.out.2.2.2.2.2.2.2.2
    rw [← hzy] at hs
    have s0 : 0 ≤ s := by omega
    have s9 : s ≤ 9000000 := by omega
    obtain ⟨ml, hml⟩ : ∃ ml : Int, ml = ((mlen (lp m.y) k : Nat) : Int) := ⟨_, rfl⟩
    have hl31 := mlen_ge (lp m.y) k
    have ml0 : 0 ≤ ml := by omega
    have ml1 : ml ≤ 31 := by omega
    have Hk : Hid (∀ W, Calls Tryz.prog 93 #[.int .i64 (m.y : Int), .int .i64 (k : Int)] W fun r w' => r = .returned (.int .i64 ml) ∧ W = w') := Lib.hid (fun W => by rw [hml]; exact Hm.out k W)
    by_cases hlt : k < m.mo
    · have hI : (k : Int) < (m.mo : Int) := by omega
      have hk12 : (k : Int) ≤ 12 := by omega
      have hk0 : (1 : Int) ≤ (k : Int) := by omega
      have hsucc := msm_succ (lp m.y) hk1
      have HS := Lib.hid (And.intro hs (And.intro hml (And.intro hsucc (And.intro hk1 hlt))))
      clear hs hml hsucc hk1 hlt hzy hms hm12 hl31 hk2 hW
      go_wp2_with (go_at_call 93; refine (Hk.out _).mono ?_; rintro r w' ⟨rfl, rfl⟩)
      have hs := HS.out.1
      have hml := HS.out.2.1
      have hsucc := HS.out.2.2.1
      have hk1 := HS.out.2.2.2.1
      have hlt := HS.out.2.2.2.2
      have hzy : zy = _ := HO.out.2.2.2.2.2.2.2.2
      exact ⟨⟨k + 1, s + ml, by go_num, rfl, by omega, by omega, by rw [hs, hml, Nat.add_sub_cancel, hsucc, hzy]; omega, HW.out⟩, by simp [intOf]; omega⟩
    · have hkm : k = m.mo := by omega
      have hsr : s = (rd : Int) := by
        have h1 := HO.out.2.2.2.2.1
        rw [hs, hkm]
        have h2 : zy = _ := HO.out.2.2.2.2.2.2.2.2
        omega
      have hI : (m.mo : Int) ≤ (k : Int) := by omega
      have r1 := HO.out.2.2.2.1
      have rz0 : (0 : Int) ≤ (rd : Int) := by omega
      have rz1 : (rd : Int) ≤ 4000000 := by omega
      obtain ⟨j, hj⟩ : ∃ j, j = rd % 7 := ⟨_, rfl⟩
      have hj7 : j < 7 := by omega
      have hje : (rd : Int) - 7 * ((rd : Int) / 7) = (j : Int) := by omega
      have hj0 : (j : Int) < 7 := by omega
      have hjz : (0 : Int) ≤ (j : Int) := by omega
      obtain ⟨wk, hwk⟩ : ∃ wk : ByteArray, wk = ⟨(weekNames.getD j []).toArray⟩ := ⟨_, rfl⟩
      have dd : wr.cell? ⟨w.heap.size + 1 + 1 + 1, j, none⟩ = some (.string wk) := by rw [hwk]; exact hW.day j hj7
      have c3 := hW.c3
      have hh0 : (m.h : Int) < 24 := by have := HO.out.1.h; omega
      have hsz : zy ≤ (rd : Int) := by have h2 : zy = _ := HO.out.2.2.2.2.2.2.2.2; have h1 := HO.out.2.2.2.2.1; have h3 := HO.out.1.d1; omega
      have Hf := Lib.hid (fun W => floor_7 rd rz0 (by omega) W)
      have HW2 := Lib.hid (And.intro hkm (And.intro hj hwk))
      clear hs hml hzy hms hl31 hk2 hW hkm hj hwk hlt r1 Hk hk1 hj7
      subst hsr
      go_upto_region 10 with (first
        | (go_at_call 92; refine (Hz.out _).mono ?_; rintro r w' ⟨rfl, rfl⟩)
        | (go_at_call 91; refine (Hf.out _).mono ?_; rintro r w' ⟨rfl, rfl⟩))
      go_cut [13] from 50 (fun s13 w' => s13 = .int .i64 (((m.h : Int) + 11) % 12 + 1) ∧ wr = w')
      case first =>
        go_wp2
        go_meet
        exact ⟨rfl, rfl⟩
      case rest =>
      obtain ⟨rfl, rfl⟩ := hcut
      have hkm := HW2.out.1
      have o := HO.out
      have oy : zy = _ := o.2.2.2.2.2.2.2.2
      have W' := HW.out
      have C : WtCtx w w.heap.size (w.heap.size + 1) (w.heap.size + 2) off Z ((rd : Int) - zy + 1) (((m.h : Int) + 11) % 12 + 1) wk m wr := by
        refine ⟨o.1, o.2.1, o.2.2.1, ?_, ?_, ?_, HP.out.1.belowB W'.below HP.out.2, Nat.le_trans HP.out.2 W'.below.size, W'.below, W'.t2, W'.t3, W'.c0, W'.c1, W'.c2, W'.c3, W'.c4, W'.c5, W'.c6, W'.mon⟩
        · have h1 := o.2.2.2.2.1
          have h2 := o.2.2.2.2.2.1
          rw [oy]
          omega
        · have h1 := half_eq m.h
          omega
        · rw [HW2.out.2.2, show bts ⟨(weekNames.getD j []).toArray⟩ = weekNames.getD j [] by simp [bts], HW2.out.2.1, week_day, o.2.2.2.2.2.2.1]
      go_step
      refine HK.out _ _ _ _ _ _ _ _ _ C ?_ ?_
      · exact wt_of rfl (by kernel_rfl)
      · intro a' w' s h1 h2 h3 h4
        have hr := results_tmp (fn := Tryz.f54) (t := 6) rfl a'.tmps Tryz.prog w'
        rw [h1] at hr
        exact bodyPost_ret hr h2 ⟨s, rfl, h3, h4⟩
end Go.Proofs.YtchmhdmapknmfaaGreatDoor

/-
  zWritten: parts of a second.
-/
namespace Go.Proofs.YtchmhdmapknmfaaGreatDoor
open Go.RowKit Ly
attribute [local go_sem ↓] Go.wp_at_zero Go.wp_at_succ

theorem frac_head {x : ByteArray} {c d : UInt8} {n : Nat} (h1 : 1 ≤ n) (hx : bts x = c :: List.replicate n d) : ∃ (a0 : 0 < x.size) (a1 : 1 < x.size), x[0] = c ∧ x[1] = d ∧ x.size = n + 1 := by
  have hs : x.size = n + 1 := by rw [← bts_length, hx]; simp
  have a0 : 0 < x.size := by omega
  have a1 : 1 < x.size := by omega
  refine ⟨a0, a1, ?_, ?_, hs⟩
  · have h := bts_drop x 0 a0
    rw [List.drop_zero, hx] at h
    exact (List.cons.inj h).1.symm
  · have h := bts_drop x 1 a1
    obtain ⟨k, rfl⟩ : ∃ k, n = k + 1 := ⟨n - 1, by omega⟩
    rw [hx, List.replicate_succ] at h
    exact (List.cons.inj h).1.symm

theorem lits_ne {l : List UInt8} {c : UInt8} (hc : c = 46 ∨ c = 44) : ∀ k p, k ≠ 46 → k ≠ 44 → ((c :: l) == (k :: p)) = false := by
  intro k p h1 h2
  refine cons_ne ?_
  rcases hc with rfl | rfl
  · exact fun e => h1 e.symm
  · exact fun e => h2 e.symm

/-- What the loop that leaves noughts out keeps. -/
def TzRel (T : List UInt8) (w0 : World) (v : Value) (wr : World) : Prop := ∃ s : ByteArray, v = .string s ∧ s.size ≤ 9 ∧ trim0 (bts s) = T ∧ wr = w0

theorem frac_first {x : ByteArray} {c d : UInt8} {n : Nat} (hx : bts x = c :: List.replicate n d) : bts (x.extract 0 1) = [c] := by
  rw [bts_extract, List.drop_zero, hx]
  rfl
theorem last_of (s : ByteArray) {j : Nat} (hj : s.size = j + 1) (hl : j < s.size) : bts s = bts (s.extract 0 j) ++ [s[j]] := by
  have h := bts_drop s j hl
  have e : bts s = (bts s).take j ++ (bts s).drop j := (List.take_append_drop _ _).symm
  have e2 : (bts s).drop (j + 1) = [] := List.drop_eq_nil_of_le (by rw [bts_length]; omega)
  rw [h, e2] at e
  rw [bts_extract, List.drop_zero, Nat.sub_zero]
  exact e

theorem sw_dot {x : ByteArray} {l : List UInt8} {c : UInt8} (hc : c = 46 ∨ c = 44) (e : x.toList = c :: l) : (x.toList == [74, 97, 110, 117, 97, 114, 121]) = false ∧ (x.toList == [74, 97, 110]) = false ∧ (x.toList == [49]) = false ∧ (x.toList == [48, 49]) = false ∧ (x.toList == [77, 111, 110, 100, 97, 121]) = false ∧ (x.toList == [77, 111, 110]) = false ∧ (x.toList == [50]) = false ∧ (x.toList == [95, 50]) = false ∧ (x.toList == [48, 50]) = false ∧ (x.toList == [48, 48, 50]) = false ∧ (x.toList == [95, 95, 50]) = false ∧ (x.toList == [50, 48, 48, 54]) = false ∧ (x.toList == [48, 54]) = false ∧ (x.toList == [49, 53]) = false ∧ (x.toList == [51]) = false ∧ (x.toList == [48, 51]) = false ∧ (x.toList == [52]) = false ∧ (x.toList == [48, 52]) = false ∧ (x.toList == [53]) = false ∧ (x.toList == [48, 53]) = false ∧ (x.toList == [80, 77]) = false ∧ (x.toList == [112, 109]) = false ∧ (x.toList == [77, 83, 84]) = false := by
  rw [e]
  exact ⟨lits_ne hc _ _ (by decide) (by decide), lits_ne hc _ _ (by decide) (by decide), lits_ne hc _ _ (by decide) (by decide), lits_ne hc _ _ (by decide) (by decide), lits_ne hc _ _ (by decide) (by decide), lits_ne hc _ _ (by decide) (by decide), lits_ne hc _ _ (by decide) (by decide), lits_ne hc _ _ (by decide) (by decide), lits_ne hc _ _ (by decide) (by decide), lits_ne hc _ _ (by decide) (by decide), lits_ne hc _ _ (by decide) (by decide), lits_ne hc _ _ (by decide) (by decide), lits_ne hc _ _ (by decide) (by decide), lits_ne hc _ _ (by decide) (by decide), lits_ne hc _ _ (by decide) (by decide), lits_ne hc _ _ (by decide) (by decide), lits_ne hc _ _ (by decide) (by decide), lits_ne hc _ _ (by decide) (by decide), lits_ne hc _ _ (by decide) (by decide), lits_ne hc _ _ (by decide) (by decide), lits_ne hc _ _ (by decide) (by decide), lits_ne hc _ _ (by decide) (by decide), lits_ne hc _ _ (by decide) (by decide)⟩

set_option maxRecDepth 100000 in
set_option maxHeartbeats 4000000 in
theorem wt_frac_48_46 {x wk Z : ByteArray} {p3 p4 q7 : Nat} {yd hf off : Int} {m : Ly.Mo} {w0 W : World} {a : Act} (Q : Exit → Act → World → Prop) (C : WtCtx w0 p3 p4 q7 off Z yd hf wk m W) (ha : Wt x p3 p4 q7 yd hf wk a) (n : Nat) (h1 : 1 ≤ n) (hn : n ≤ 1000) (hx : bts x = 46 :: List.replicate n 48) (hQ : WtEnd w0 (fracT 46 n false m.na) Q) : Code.wp Tryz.prog wtTail Q a W := by
  obtain ⟨f, rfl⟩ := ha
  have e1 : x.toList = 46 :: List.replicate n 48 := by rw [← hx]; exact Lib.toList_data x
  obtain ⟨t0, t1, t2, t3, t4, t5, t6, t7, t8, t9, t10, t11, t12, t13, t14, t15, t16, t17, t18, t19, t20, t21, t22⟩ := sw_dot (by decide) e1
  obtain ⟨hx0, hx1, hb0, hb1, hxs⟩ := frac_head h1 hx
  have hx0' : (0 : Int) < (x.size : Int) := by omega
  have hx1' : (1 : Int) < (x.size : Int) := by omega
  have hx2' : (1 : Int) ≤ (x.size : Int) := by omega
  have hx3' : (x.size : Int) ≤ 1001 := by omega
  have g46 : ((x[0].toNat : Int) == 46) = true := by rw [hb0]; rfl
  have g57 : ((x[1].toNat : Int) == 57) = false := by rw [hb1]; rfl
  have hf1 := frac_first hx
  have z := C.c6
  have B := Lib.hid (show m.na < 1000000000 from C.ok.na)
  have z0 : (0 : Int) ≤ (m.na : Int) := by omega
  obtain ⟨k, hk⟩ : ∃ k : Nat, k = min 9 n := ⟨_, rfl⟩
  have hkm : min 9 ((x.size : Int) - 1) = (k : Int) := by omega
  have k1 : (0 : Int) ≤ (k : Int) := by omega
  have HX := Lib.hid (And.intro hf1 (And.intro h1 (And.intro hn hk)))
  have H := Lib.hid C
  clear e1 hx hxs hb0 hb1 h1 hn C hk hf1
  conv => arg 2; whnf
  go_wp2_with fail
  go_at_call 95
  refine (padded_any (m.na) 9 _ _ rfl rfl (by have := B.out; omega) (by omega) _ H.out.hp).mono ?_
  rintro r w1 ⟨s, rfl, hs, hs30, hb⟩
  have hs9 : s.size = 9 := by rw [← bts_length, hs]; exact Ly.pad_length (by decide) B.out
  have hk9 : k ≤ 9 := by have := HX.out.2.2.2; omega
  have hks : (k : Int) ≤ (s.size : Int) := by omega
  obtain ⟨S, hS⟩ : ∃ S : ByteArray, S = s.extract 0 k := ⟨_, rfl⟩
  have hSb : bts S = (Ly.pad 9 m.na).take n := by
    rw [hS, bts_extract, List.drop_zero, hs, Nat.sub_zero, HX.out.2.2.2]
    rcases Nat.le_total n 9 with h | h
    · rw [Nat.min_eq_right h]
    · rw [Nat.min_eq_left h, List.take_of_length_le (by rw [← hs, bts_length]; omega), List.take_of_length_le (by rw [← hs, bts_length]; omega)]
  have hSs : S.size = k := by rw [hS, ByteArray.size_extract]; omega
  have Hs := Lib.hid (And.intro hSb (And.intro hSs hb))
  have hSe : s.extract 0 k = S := hS.symm
  clear hs hs9 hb hSb hSs hs30 hS
  go_wp2_with fail
  clear hSe hks
  go_loopw [14] (fun v wr => v = .string S ∧ wr = w1) (fun _ _ => 0)
  case atStart => exact ⟨rfl, rfl⟩
  case round =>
    obtain ⟨rfl, rfl⟩ := hrel
    have hS0 : 0 < S.size := by have := Hs.out.2.1; have := HX.out.2.1; have := HX.out.2.2.2; omega
    have hne := isEmpty_no hS0
    have hS9 : S.size ≤ 9 := by have := Hs.out.2.1; omega
    have hx1s : (x.extract 0 1).size = 1 := by rw [ByteArray.size_extract]; omega
    have k2 : ¬ (9223372036854775807 < (x.extract 0 1).size + S.size) := by omega
    clear hS0 hS9 hx1s
    go_wp2
    exact hQ _ _ (x.extract 0 1 ++ S) (by rfl) rfl (by rw [bts_app, HX.out.1, Hs.out.1, fracT_plain 46 HX.out.2.1 B.out]; rfl) (H.out.below.trans (Hs.out.2.2.mono H.out.below.size))

set_option maxRecDepth 100000 in
set_option maxHeartbeats 4000000 in
theorem wt_frac_48_44 {x wk Z : ByteArray} {p3 p4 q7 : Nat} {yd hf off : Int} {m : Ly.Mo} {w0 W : World} {a : Act} (Q : Exit → Act → World → Prop) (C : WtCtx w0 p3 p4 q7 off Z yd hf wk m W) (ha : Wt x p3 p4 q7 yd hf wk a) (n : Nat) (h1 : 1 ≤ n) (hn : n ≤ 1000) (hx : bts x = 44 :: List.replicate n 48) (hQ : WtEnd w0 (fracT 44 n false m.na) Q) : Code.wp Tryz.prog wtTail Q a W := by
  obtain ⟨f, rfl⟩ := ha
  have e1 : x.toList = 44 :: List.replicate n 48 := by rw [← hx]; exact Lib.toList_data x
  obtain ⟨t0, t1, t2, t3, t4, t5, t6, t7, t8, t9, t10, t11, t12, t13, t14, t15, t16, t17, t18, t19, t20, t21, t22⟩ := sw_dot (by decide) e1
  obtain ⟨hx0, hx1, hb0, hb1, hxs⟩ := frac_head h1 hx
  have hx0' : (0 : Int) < (x.size : Int) := by omega
  have hx1' : (1 : Int) < (x.size : Int) := by omega
  have hx2' : (1 : Int) ≤ (x.size : Int) := by omega
  have hx3' : (x.size : Int) ≤ 1001 := by omega
  have g46 : ((x[0].toNat : Int) == 46) = false := by rw [hb0]; rfl
  have g44 : ((x[0].toNat : Int) == 44) = true := by rw [hb0]; rfl
  have g57 : ((x[1].toNat : Int) == 57) = false := by rw [hb1]; rfl
  have hf1 := frac_first hx
  have z := C.c6
  have B := Lib.hid (show m.na < 1000000000 from C.ok.na)
  have z0 : (0 : Int) ≤ (m.na : Int) := by omega
  obtain ⟨k, hk⟩ : ∃ k : Nat, k = min 9 n := ⟨_, rfl⟩
  have hkm : min 9 ((x.size : Int) - 1) = (k : Int) := by omega
  have k1 : (0 : Int) ≤ (k : Int) := by omega
  have HX := Lib.hid (And.intro hf1 (And.intro h1 (And.intro hn hk)))
  have H := Lib.hid C
  clear e1 hx hxs hb0 hb1 h1 hn C hk hf1
  conv => arg 2; whnf
  go_wp2_with fail
  go_at_call 95
  refine (padded_any (m.na) 9 _ _ rfl rfl (by have := B.out; omega) (by omega) _ H.out.hp).mono ?_
  rintro r w1 ⟨s, rfl, hs, hs30, hb⟩
  have hs9 : s.size = 9 := by rw [← bts_length, hs]; exact Ly.pad_length (by decide) B.out
  have hk9 : k ≤ 9 := by have := HX.out.2.2.2; omega
  have hks : (k : Int) ≤ (s.size : Int) := by omega
  obtain ⟨S, hS⟩ : ∃ S : ByteArray, S = s.extract 0 k := ⟨_, rfl⟩
  have hSb : bts S = (Ly.pad 9 m.na).take n := by
    rw [hS, bts_extract, List.drop_zero, hs, Nat.sub_zero, HX.out.2.2.2]
    rcases Nat.le_total n 9 with h | h
    · rw [Nat.min_eq_right h]
    · rw [Nat.min_eq_left h, List.take_of_length_le (by rw [← hs, bts_length]; omega), List.take_of_length_le (by rw [← hs, bts_length]; omega)]
  have hSs : S.size = k := by rw [hS, ByteArray.size_extract]; omega
  have Hs := Lib.hid (And.intro hSb (And.intro hSs hb))
  have hSe : s.extract 0 k = S := hS.symm
  clear hs hs9 hb hSb hSs hs30 hS
  go_wp2_with fail
  clear hSe hks
  go_loopw [14] (fun v wr => v = .string S ∧ wr = w1) (fun _ _ => 0)
  case atStart => exact ⟨rfl, rfl⟩
  case round =>
    obtain ⟨rfl, rfl⟩ := hrel
    have hS0 : 0 < S.size := by have := Hs.out.2.1; have := HX.out.2.1; have := HX.out.2.2.2; omega
    have hne := isEmpty_no hS0
    have hS9 : S.size ≤ 9 := by have := Hs.out.2.1; omega
    have hx1s : (x.extract 0 1).size = 1 := by rw [ByteArray.size_extract]; omega
    have k2 : ¬ (9223372036854775807 < (x.extract 0 1).size + S.size) := by omega
    clear hS0 hS9 hx1s
    go_wp2
    exact hQ _ _ (x.extract 0 1 ++ S) (by rfl) rfl (by rw [bts_app, HX.out.1, Hs.out.1, fracT_plain 44 HX.out.2.1 B.out]; rfl) (H.out.below.trans (Hs.out.2.2.mono H.out.below.size))

set_option maxRecDepth 100000 in
set_option maxHeartbeats 4000000 in
theorem wt_frac_57_46 {x wk Z : ByteArray} {p3 p4 q7 : Nat} {yd hf off : Int} {m : Ly.Mo} {w0 W : World} {a : Act} (Q : Exit → Act → World → Prop) (C : WtCtx w0 p3 p4 q7 off Z yd hf wk m W) (ha : Wt x p3 p4 q7 yd hf wk a) (n : Nat) (h1 : 1 ≤ n) (hn : n ≤ 1000) (hx : bts x = 46 :: List.replicate n 57) (hQ : WtEnd w0 (fracT 46 n true m.na) Q) : Code.wp Tryz.prog wtTail Q a W := by
  obtain ⟨f, rfl⟩ := ha
  have e1 : x.toList = 46 :: List.replicate n 57 := by rw [← hx]; exact Lib.toList_data x
  obtain ⟨t0, t1, t2, t3, t4, t5, t6, t7, t8, t9, t10, t11, t12, t13, t14, t15, t16, t17, t18, t19, t20, t21, t22⟩ := sw_dot (by decide) e1
  obtain ⟨hx0, hx1, hb0, hb1, hxs⟩ := frac_head h1 hx
  have hx0' : (0 : Int) < (x.size : Int) := by omega
  have hx1' : (1 : Int) < (x.size : Int) := by omega
  have hx2' : (1 : Int) ≤ (x.size : Int) := by omega
  have hx3' : (x.size : Int) ≤ 1001 := by omega
  have g46 : ((x[0].toNat : Int) == 46) = true := by rw [hb0]; rfl
  have g57 : ((x[1].toNat : Int) == 57) = true := by rw [hb1]; rfl
  have hf1 := frac_first hx
  have z := C.c6
  have B := Lib.hid (show m.na < 1000000000 from C.ok.na)
  have z0 : (0 : Int) ≤ (m.na : Int) := by omega
  obtain ⟨k, hk⟩ : ∃ k : Nat, k = min 9 n := ⟨_, rfl⟩
  have hkm : min 9 ((x.size : Int) - 1) = (k : Int) := by omega
  have k1 : (0 : Int) ≤ (k : Int) := by omega
  have HX := Lib.hid (And.intro hf1 (And.intro h1 (And.intro hn hk)))
  have H := Lib.hid C
  clear e1 hx hxs hb0 hb1 h1 hn C hk hf1
  conv => arg 2; whnf
  go_wp2_with fail
  go_at_call 95
  refine (padded_any (m.na) 9 _ _ rfl rfl (by have := B.out; omega) (by omega) _ H.out.hp).mono ?_
  rintro r w1 ⟨s, rfl, hs, hs30, hb⟩
  have hs9 : s.size = 9 := by rw [← bts_length, hs]; exact Ly.pad_length (by decide) B.out
  have hk9 : k ≤ 9 := by have := HX.out.2.2.2; omega
  have hks : (k : Int) ≤ (s.size : Int) := by omega
  obtain ⟨S, hS⟩ : ∃ S : ByteArray, S = s.extract 0 k := ⟨_, rfl⟩
  have hSb : bts S = (Ly.pad 9 m.na).take n := by
    rw [hS, bts_extract, List.drop_zero, hs, Nat.sub_zero, HX.out.2.2.2]
    rcases Nat.le_total n 9 with h | h
    · rw [Nat.min_eq_right h]
    · rw [Nat.min_eq_left h, List.take_of_length_le (by rw [← hs, bts_length]; omega), List.take_of_length_le (by rw [← hs, bts_length]; omega)]
  have hSs : S.size = k := by rw [hS, ByteArray.size_extract]; omega
  have Hs := Lib.hid (And.intro hSb (And.intro hSs hb))
  have hSe : s.extract 0 k = S := hS.symm
  clear hs hs9 hb hSb hSs hs30 hS
  go_wp2_with fail
  clear hSe hks
  go_loopw [14] (fun v wr => TzRel (trim0 (bts S)) w1 v wr) (fun v _ => strSz v)
  case atStart => exact ⟨S, rfl, by have := Hs.out.2.1; omega, rfl, rfl⟩
  case round =>
    obtain ⟨s2, rfl, h9, ht, rfl⟩ := hrel
    have hb9 : (s2.size : Int) ≤ 9 := by omega
    by_cases hs0 : s2.size = 0
    · have hne := isEmpty_yes hs0
      have hs0' : ¬ ((0 : Int) < (s2.size : Int)) := by omega
      have Ht := Lib.hid (And.intro ht hs0)
      clear ht hs0 h9
      go_wp2
      exact hQ _ _ ⟨#[]⟩ (by rfl) rfl (by
        have e : bts s2 = [] := List.eq_nil_of_length_eq_zero (by rw [bts_length]; exact Ht.out.2)
        rw [fracT_none 46 (n := n) (na := m.na) (by rw [← Hs.out.1, ← Ht.out.1, e]; rfl)]) (H.out.below.trans (Hs.out.2.2.mono H.out.below.size))
    · have hs0' : (0 : Int) < (s2.size : Int) := by omega
      have hs1' : (0 : Int) ≤ (s2.size : Int) - 1 := by omega
      have hs2' : (s2.size : Int) - 1 < (s2.size : Int) := by omega
      have hs3' : (s2.size : Int) - 1 ≤ (s2.size : Int) := by omega
      have hne := isEmpty_no (show 0 < s2.size by omega)
      obtain ⟨j, hj⟩ : ∃ j, s2.size = j + 1 := ⟨s2.size - 1, by omega⟩
      have hjl : j < s2.size := by omega
      have hsub : (s2.size : Int) - 1 = (j : Int) := by omega
      have hl := last_of s2 hj hjl
      have hj0 : (0 : Int) ≤ (j : Int) := by omega
      have hj1 : (j : Int) < (s2.size : Int) := by omega
      have hj2 : (j : Int) ≤ (s2.size : Int) := by omega
      have hx1s : (x.extract 0 1).size = 1 := by rw [ByteArray.size_extract]; omega
      have k2 : ¬ (9223372036854775807 < (x.extract 0 1).size + s2.size) := by omega
      have Hj := Lib.hid (And.intro hj (And.intro ht (And.intro hl h9)))
      by_cases h48 : s2[j] = 48
      · have hb48 : ((s2[j].toNat : Int) == 48) = true := by rw [h48]; rfl
        have H48 := Lib.hid h48
        clear hj ht hl h9 hx1s h48 hs0
        go_wp2
        refine ⟨⟨s2.extract 0 j, rfl, ?_, ?_, rfl⟩, ?_⟩
        · rw [ByteArray.size_extract]; have := Hj.out.2.2.2; omega
        · rw [← Hj.out.2.1, Hj.out.2.2.1, H48.out, trim0_zero]
        · show (s2.extract 0 j).size < s2.size
          rw [ByteArray.size_extract]
          have := Hj.out.1
          omega
      · have hb48 : ((s2[j].toNat : Int) == 48) = false := bF h48
        have H48 := Lib.hid h48
        clear hj ht hl h9 hx1s h48 hs0
        go_wp2
        exact hQ _ _ (x.extract 0 1 ++ s2) (by rfl) rfl (by
          have e : trim0 ((Ly.pad 9 m.na).take n) = bts (s2.extract 0 j) ++ [s2[j]] := by rw [← Hs.out.1, ← Hj.out.2.1, Hj.out.2.2.1, trim0_keep _ H48.out]
          rw [bts_app, HX.out.1, fracT_some 46 (n := n) (na := m.na) e, ← Hj.out.2.2.1]
          rfl) (H.out.below.trans (Hs.out.2.2.mono H.out.below.size))

set_option maxRecDepth 100000 in
set_option maxHeartbeats 4000000 in
theorem wt_frac_57_44 {x wk Z : ByteArray} {p3 p4 q7 : Nat} {yd hf off : Int} {m : Ly.Mo} {w0 W : World} {a : Act} (Q : Exit → Act → World → Prop) (C : WtCtx w0 p3 p4 q7 off Z yd hf wk m W) (ha : Wt x p3 p4 q7 yd hf wk a) (n : Nat) (h1 : 1 ≤ n) (hn : n ≤ 1000) (hx : bts x = 44 :: List.replicate n 57) (hQ : WtEnd w0 (fracT 44 n true m.na) Q) : Code.wp Tryz.prog wtTail Q a W := by
  obtain ⟨f, rfl⟩ := ha
  have e1 : x.toList = 44 :: List.replicate n 57 := by rw [← hx]; exact Lib.toList_data x
  obtain ⟨t0, t1, t2, t3, t4, t5, t6, t7, t8, t9, t10, t11, t12, t13, t14, t15, t16, t17, t18, t19, t20, t21, t22⟩ := sw_dot (by decide) e1
  obtain ⟨hx0, hx1, hb0, hb1, hxs⟩ := frac_head h1 hx
  have hx0' : (0 : Int) < (x.size : Int) := by omega
  have hx1' : (1 : Int) < (x.size : Int) := by omega
  have hx2' : (1 : Int) ≤ (x.size : Int) := by omega
  have hx3' : (x.size : Int) ≤ 1001 := by omega
  have g46 : ((x[0].toNat : Int) == 46) = false := by rw [hb0]; rfl
  have g44 : ((x[0].toNat : Int) == 44) = true := by rw [hb0]; rfl
  have g57 : ((x[1].toNat : Int) == 57) = true := by rw [hb1]; rfl
  have hf1 := frac_first hx
  have z := C.c6
  have B := Lib.hid (show m.na < 1000000000 from C.ok.na)
  have z0 : (0 : Int) ≤ (m.na : Int) := by omega
  obtain ⟨k, hk⟩ : ∃ k : Nat, k = min 9 n := ⟨_, rfl⟩
  have hkm : min 9 ((x.size : Int) - 1) = (k : Int) := by omega
  have k1 : (0 : Int) ≤ (k : Int) := by omega
  have HX := Lib.hid (And.intro hf1 (And.intro h1 (And.intro hn hk)))
  have H := Lib.hid C
  clear e1 hx hxs hb0 hb1 h1 hn C hk hf1
  conv => arg 2; whnf
  go_wp2_with fail
  go_at_call 95
  refine (padded_any (m.na) 9 _ _ rfl rfl (by have := B.out; omega) (by omega) _ H.out.hp).mono ?_
  rintro r w1 ⟨s, rfl, hs, hs30, hb⟩
  have hs9 : s.size = 9 := by rw [← bts_length, hs]; exact Ly.pad_length (by decide) B.out
  have hk9 : k ≤ 9 := by have := HX.out.2.2.2; omega
  have hks : (k : Int) ≤ (s.size : Int) := by omega
  obtain ⟨S, hS⟩ : ∃ S : ByteArray, S = s.extract 0 k := ⟨_, rfl⟩
  have hSb : bts S = (Ly.pad 9 m.na).take n := by
    rw [hS, bts_extract, List.drop_zero, hs, Nat.sub_zero, HX.out.2.2.2]
    rcases Nat.le_total n 9 with h | h
    · rw [Nat.min_eq_right h]
    · rw [Nat.min_eq_left h, List.take_of_length_le (by rw [← hs, bts_length]; omega), List.take_of_length_le (by rw [← hs, bts_length]; omega)]
  have hSs : S.size = k := by rw [hS, ByteArray.size_extract]; omega
  have Hs := Lib.hid (And.intro hSb (And.intro hSs hb))
  have hSe : s.extract 0 k = S := hS.symm
  clear hs hs9 hb hSb hSs hs30 hS
  go_wp2_with fail
  clear hSe hks
  go_loopw [14] (fun v wr => TzRel (trim0 (bts S)) w1 v wr) (fun v _ => strSz v)
  case atStart => exact ⟨S, rfl, by have := Hs.out.2.1; omega, rfl, rfl⟩
  case round =>
    obtain ⟨s2, rfl, h9, ht, rfl⟩ := hrel
    have hb9 : (s2.size : Int) ≤ 9 := by omega
    by_cases hs0 : s2.size = 0
    · have hne := isEmpty_yes hs0
      have hs0' : ¬ ((0 : Int) < (s2.size : Int)) := by omega
      have Ht := Lib.hid (And.intro ht hs0)
      clear ht hs0 h9
      go_wp2
      exact hQ _ _ ⟨#[]⟩ (by rfl) rfl (by
        have e : bts s2 = [] := List.eq_nil_of_length_eq_zero (by rw [bts_length]; exact Ht.out.2)
        rw [fracT_none 44 (n := n) (na := m.na) (by rw [← Hs.out.1, ← Ht.out.1, e]; rfl)]) (H.out.below.trans (Hs.out.2.2.mono H.out.below.size))
    · have hs0' : (0 : Int) < (s2.size : Int) := by omega
      have hs1' : (0 : Int) ≤ (s2.size : Int) - 1 := by omega
      have hs2' : (s2.size : Int) - 1 < (s2.size : Int) := by omega
      have hs3' : (s2.size : Int) - 1 ≤ (s2.size : Int) := by omega
      have hne := isEmpty_no (show 0 < s2.size by omega)
      obtain ⟨j, hj⟩ : ∃ j, s2.size = j + 1 := ⟨s2.size - 1, by omega⟩
      have hjl : j < s2.size := by omega
      have hsub : (s2.size : Int) - 1 = (j : Int) := by omega
      have hl := last_of s2 hj hjl
      have hj0 : (0 : Int) ≤ (j : Int) := by omega
      have hj1 : (j : Int) < (s2.size : Int) := by omega
      have hj2 : (j : Int) ≤ (s2.size : Int) := by omega
      have hx1s : (x.extract 0 1).size = 1 := by rw [ByteArray.size_extract]; omega
      have k2 : ¬ (9223372036854775807 < (x.extract 0 1).size + s2.size) := by omega
      have Hj := Lib.hid (And.intro hj (And.intro ht (And.intro hl h9)))
      by_cases h48 : s2[j] = 48
      · have hb48 : ((s2[j].toNat : Int) == 48) = true := by rw [h48]; rfl
        have H48 := Lib.hid h48
        clear hj ht hl h9 hx1s h48 hs0
        go_wp2
        refine ⟨⟨s2.extract 0 j, rfl, ?_, ?_, rfl⟩, ?_⟩
        · rw [ByteArray.size_extract]; have := Hj.out.2.2.2; omega
        · rw [← Hj.out.2.1, Hj.out.2.2.1, H48.out, trim0_zero]
        · show (s2.extract 0 j).size < s2.size
          rw [ByteArray.size_extract]
          have := Hj.out.1
          omega
      · have hb48 : ((s2[j].toNat : Int) == 48) = false := bF h48
        have H48 := Lib.hid h48
        clear hj ht hl h9 hx1s h48 hs0
        go_wp2
        exact hQ _ _ (x.extract 0 1 ++ s2) (by rfl) rfl (by
          have e : trim0 ((Ly.pad 9 m.na).take n) = bts (s2.extract 0 j) ++ [s2[j]] := by rw [← Hs.out.1, ← Hj.out.2.1, Hj.out.2.2.1, trim0_keep _ H48.out]
          rw [bts_app, HX.out.1, fracT_some 44 (n := n) (na := m.na) e, ← Hj.out.2.2.1]
          rfl) (H.out.below.trans (Hs.out.2.2.mono H.out.below.size))

end Go.Proofs.YtchmhdmapknmfaaGreatDoor

/-
  zWritten: what it writes for each part of a layout (printed by gen_Rm.py).
-/
namespace Go.Proofs.YtchmhdmapknmfaaGreatDoor
open Go.RowKit Ly

theorem zip_eq : chunks.zip codes = [([74, 97, 110, 117, 97, 114, 121], 257), ([74, 97, 110], 258), ([77, 111, 110, 100, 97, 121], 261), ([77, 111, 110], 262), ([77, 83, 84], 23), ([48, 48, 50], 523), ([48, 49], 260), ([48, 50], 265), ([48, 51], 1038), ([48, 52], 1040), ([48, 53], 1042), ([48, 54], 276), ([49, 53], 1036), ([49], 259), ([50, 48, 48, 54], 275), ([50], 263), ([95, 95, 50], 522), ([95, 50], 264), ([51], 1037), ([52], 1039), ([53], 1041), ([80, 77], 1045), ([112, 109], 1046), ([45, 48, 55, 48, 48, 48, 48], 30), ([45, 48, 55, 58, 48, 48, 58, 48, 48], 33), ([45, 48, 55, 48, 48], 29), ([45, 48, 55, 58, 48, 48], 32), ([45, 48, 55], 31), ([90, 48, 55, 48, 48, 48, 48], 25), ([90, 48, 55, 58, 48, 48, 58, 48, 48], 28), ([90, 48, 55, 48, 48], 24), ([90, 48, 55, 58, 48, 48], 27), ([90, 48, 55], 26)] := rfl

theorem txt_frac {c d : UInt8} {n : Nat} (hc : c = 46 ∨ c = 44) (h1 : 1 ≤ n) (hn : n ≤ 1000) (m : Mo) : txt m (frac c d n) = fracT c n ((if d = 57 then (35 : Int) else 34) == 35) m.na := by
  refine Fr.txt (e := if d = 57 then 35 else 34) (q := if c = 44 then 268435456 else 0) ⟨?_, ?_, ?_, h1, hn⟩ m
  · unfold frac
    rw [Nat.mod_eq_of_lt (by omega)]
  · split
    · exact .inr rfl
    · exact .inl rfl
  · rcases hc with rfl | rfl
    · exact .inl ⟨rfl, rfl⟩
    · exact .inr ⟨rfl, rfl⟩

theorem wt_any {x wk Z : ByteArray} {p3 p4 q7 : Nat} {yd hf off : Int} {m : Ly.Mo} {w0 W : World} {a : Act} {std : Int} (Q : Exit → Act → World → Prop) (C : WtCtx w0 p3 p4 q7 off Z yd hf wk m W) (ha : Wt x p3 p4 q7 yd hf wk a) (hx : Wr (bts x) std) (hs : x.size ≤ 1000) (hQ : WtEnd w0 (Ly.txt m std) Q) : Code.wp Tryz.prog wtTail Q a W := by
  rcases hx with h | ⟨c, d, n, hc, hd, h1, hx, rfl⟩
  · rw [zip_eq] at h
    simp only [List.mem_cons, List.not_mem_nil, or_false, Prod.mk.injEq] at h
    rcases h with ⟨hx, rfl⟩ | ⟨hx, rfl⟩ | ⟨hx, rfl⟩ | ⟨hx, rfl⟩ | ⟨hx, rfl⟩ | ⟨hx, rfl⟩ | ⟨hx, rfl⟩ | ⟨hx, rfl⟩ | ⟨hx, rfl⟩ | ⟨hx, rfl⟩ | ⟨hx, rfl⟩ | ⟨hx, rfl⟩ | ⟨hx, rfl⟩ | ⟨hx, rfl⟩ | ⟨hx, rfl⟩ | ⟨hx, rfl⟩ | ⟨hx, rfl⟩ | ⟨hx, rfl⟩ | ⟨hx, rfl⟩ | ⟨hx, rfl⟩ | ⟨hx, rfl⟩ | ⟨hx, rfl⟩ | ⟨hx, rfl⟩ | ⟨hx, rfl⟩ | ⟨hx, rfl⟩ | ⟨hx, rfl⟩ | ⟨hx, rfl⟩ | ⟨hx, rfl⟩ | ⟨hx, rfl⟩ | ⟨hx, rfl⟩ | ⟨hx, rfl⟩ | ⟨hx, rfl⟩ | ⟨hx, rfl⟩
    · exact wt_257 Q C ha hx hQ
    · exact wt_258 Q C ha hx hQ
    · exact wt_261 Q C ha hx hQ
    · exact wt_262 Q C ha hx hQ
    · by_cases hz : Z.size = 0
      · by_cases h0 : m.off < 0
        · exact wt_23_neg Q C ha hx h0 hz hQ
        · exact wt_23_pos Q C ha hx (by omega) hz hQ
      · exact wt_23_name Q C ha hx (by omega) hQ
    · exact wt_523 Q C ha hx hQ
    · exact wt_260 Q C ha hx hQ
    · exact wt_265 Q C ha hx hQ
    · exact wt_1038 Q C ha hx hQ
    · exact wt_1040 Q C ha hx hQ
    · exact wt_1042 Q C ha hx hQ
    · exact wt_276 Q C ha hx hQ
    · exact wt_1036 Q C ha hx hQ
    · exact wt_259 Q C ha hx hQ
    · exact wt_275 Q C ha hx hQ
    · exact wt_263 Q C ha hx hQ
    · exact wt_522 Q C ha hx hQ
    · exact wt_264 Q C ha hx hQ
    · exact wt_1037 Q C ha hx hQ
    · exact wt_1039 Q C ha hx hQ
    · exact wt_1041 Q C ha hx hQ
    · by_cases h12 : 12 ≤ m.h
      · exact wt_1045_hi Q C ha hx h12 hQ
      · exact wt_1045_lo Q C ha hx (by omega) hQ
    · by_cases h12 : 12 ≤ m.h
      · exact wt_1046_hi Q C ha hx h12 hQ
      · exact wt_1046_lo Q C ha hx (by omega) hQ
    · by_cases h0 : m.off < 0
      · exact wt_30_neg Q C ha hx h0 hQ
      · exact wt_30_pos Q C ha hx (by omega) hQ
    · by_cases h0 : m.off < 0
      · exact wt_33_neg Q C ha hx h0 hQ
      · exact wt_33_pos Q C ha hx (by omega) hQ
    · by_cases h0 : m.off < 0
      · exact wt_29_neg Q C ha hx h0 hQ
      · exact wt_29_pos Q C ha hx (by omega) hQ
    · by_cases h0 : m.off < 0
      · exact wt_32_neg Q C ha hx h0 hQ
      · exact wt_32_pos Q C ha hx (by omega) hQ
    · by_cases h0 : m.off < 0
      · exact wt_31_neg Q C ha hx h0 hQ
      · exact wt_31_pos Q C ha hx (by omega) hQ
    · rcases Int.lt_trichotomy m.off 0 with h0 | h0 | h0
      · exact wt_25_neg Q C ha hx h0 hQ
      · exact wt_25_zero Q C ha hx h0 hQ
      · exact wt_25_pos Q C ha hx h0 hQ
    · rcases Int.lt_trichotomy m.off 0 with h0 | h0 | h0
      · exact wt_28_neg Q C ha hx h0 hQ
      · exact wt_28_zero Q C ha hx h0 hQ
      · exact wt_28_pos Q C ha hx h0 hQ
    · rcases Int.lt_trichotomy m.off 0 with h0 | h0 | h0
      · exact wt_24_neg Q C ha hx h0 hQ
      · exact wt_24_zero Q C ha hx h0 hQ
      · exact wt_24_pos Q C ha hx h0 hQ
    · rcases Int.lt_trichotomy m.off 0 with h0 | h0 | h0
      · exact wt_27_neg Q C ha hx h0 hQ
      · exact wt_27_zero Q C ha hx h0 hQ
      · exact wt_27_pos Q C ha hx h0 hQ
    · rcases Int.lt_trichotomy m.off 0 with h0 | h0 | h0
      · exact wt_26_neg Q C ha hx h0 hQ
      · exact wt_26_zero Q C ha hx h0 hQ
      · exact wt_26_pos Q C ha hx h0 hQ
  · have hn : n ≤ 1000 := by
      have := bts_length x
      rw [hx] at this
      simp at this
      omega
    rw [txt_frac hc h1 hn] at hQ
    rcases hc with rfl | rfl
    · rcases hd with rfl | rfl
      · exact wt_frac_48_46 Q C ha n h1 hn hx hQ
      · exact wt_frac_57_46 Q C ha n h1 hn hx hQ
    · rcases hd with rfl | rfl
      · exact wt_frac_48_44 Q C ha n h1 hn hx hQ
      · exact wt_frac_57_44 Q C ha n h1 hn hx hQ

theorem written_any {x Z : ByteArray} {N off std : Int} (w : World) (hp : Pow w) (hH : 11 ≤ w.heap.size) (h1 : -9223372036854775808 ≤ N) (h2 : N ≤ 9223372036854775807) (h4 : -86400 < off) (h5 : off < 86400) (h6 : off % 60 = 0) (h7 : Z.size ≤ 200) (hx : Wr (bts x) std) (hs : x.size ≤ 1000) :
    Calls Tryz.prog 54 #[moV false N off Z, atV (moOf N off (bts Z)).y (moOf N off (bts Z)).mo (moOf N off (bts Z)).d (moOf N off (bts Z)).h (moOf N off (bts Z)).mi (moOf N off (bts Z)).s (moOf N off (bts Z)).na, .string x] w fun r w' => ∃ s : ByteArray, r = .returned (.string s) ∧ bts s = txt (moOf N off (bts Z)) std ∧ Below w.heap.size w w' := by
  obtain ⟨rd, r1, r2, r3, r4, r5⟩ := mo_day (bts Z) h1 h2 h4 h5
  exact written_head _ _ w hp hH (moOf_ok h1 h2 h4 h5 h6 (by rw [bts_length]; exact h7)) rfl rfl rd r1 r2 r3 r4 r5 (fun Q a W p3 p4 q7 yd hf wk C ha hQ => wt_any Q C ha hx hs hQ)
end Go.Proofs.YtchmhdmapknmfaaGreatDoor

/-
  ZLaid: the reference's text of a moment by a layout.
-/
namespace Go.Proofs.YtchmhdmapknmfaaGreatDoor
open Go.RowKit Ly
attribute [local go_sem ↓] Go.wp_at_zero Go.wp_at_succ

theorem chunk_any (s : ByteArray) (i : Nat) (hi : i < s.size) (hs : s.size ≤ 1000) (w : World) (hT : NameTab 0 chunks w.heap.size w) :
    Calls Tryz.prog 53 #[.string s, .int .i64 (i : Int)] w fun r w' => ∃ x : ByteArray, r = .returned (.string x) ∧ bts x = zc ((bts s).drop i) ∧ Below w.heap.size w w' := by
  by_cases h1 : s[i] = 46 ∨ s[i] = 44
  · exact chunk_dot s i hi hs h1 w
  · exact chunk_names s i hi hs (fun e => h1 (.inl e)) (fun e => h1 (.inr e)) w hT

theorem nameTab_mono {g B B' : Nat} {L : List (List UInt8)} {w : World} (h : NameTab g L B w) (hB : B ≤ B') : NameTab g L B' w := by
  obtain ⟨q, o, c, h1, h2, h3, h4⟩ := h
  exact ⟨q, o, c, h1, by omega, by omega, h4⟩

/-- The two moments' blocks. -/
structure LdW (w0 : World) (p q : Nat) (N off : Int) (Z : ByteArray) (m : Mo) (wr : World) : Prop where
  below : Below w0.heap.size w0 wr
  hp : p < wr.heap.size
  hq : q < wr.heap.size
  t0 : wr.cell? ⟨p, 0, none⟩ = some (.bool false)
  t1 : wr.cell? ⟨p, 1, none⟩ = some (.int .i64 N)
  t2 : wr.cell? ⟨p, 2, none⟩ = some (.int .i64 off)
  t3 : wr.cell? ⟨p, 3, none⟩ = some (.string Z)
  c0 : wr.cell? ⟨q, 0, none⟩ = some (.int .i64 (m.y : Int))
  c1 : wr.cell? ⟨q, 1, none⟩ = some (.int .i64 (m.mo : Int))
  c2 : wr.cell? ⟨q, 2, none⟩ = some (.int .i64 (m.d : Int))
  c3 : wr.cell? ⟨q, 3, none⟩ = some (.int .i64 (m.h : Int))
  c4 : wr.cell? ⟨q, 4, none⟩ = some (.int .i64 (m.mi : Int))
  c5 : wr.cell? ⟨q, 5, none⟩ = some (.int .i64 (m.s : Int))
  c6 : wr.cell? ⟨q, 6, none⟩ = some (.int .i64 (m.na : Int))

theorem LdW.step {w0 wr w' : World} {p q : Nat} {N off : Int} {Z : ByteArray} {m : Mo} (h : LdW w0 p q N off Z m wr) (hb : Below wr.heap.size wr w') : LdW w0 p q N off Z m w' := by
  have e : ∀ i, w'.cell? ⟨p, i, none⟩ = wr.cell? ⟨p, i, none⟩ := fun i => hb.cell h.hp
  have f : ∀ i, w'.cell? ⟨q, i, none⟩ = wr.cell? ⟨q, i, none⟩ := fun i => hb.cell h.hq
  exact ⟨h.below.trans (hb.mono h.below.size), Nat.lt_of_lt_of_le h.hp hb.size, Nat.lt_of_lt_of_le h.hq hb.size, (e 0).trans h.t0, (e 1).trans h.t1, (e 2).trans h.t2, (e 3).trans h.t3, (f 0).trans h.c0, (f 1).trans h.c1, (f 2).trans h.c2, (f 3).trans h.c3, (f 4).trans h.c4, (f 5).trans h.c5, (f 6).trans h.c6⟩

theorem ldW_new {w w1 : World} {N off : Int} {Z : ByteArray} (m : Mo) (hb : Below (w.alloc (.cells #[.bool false, .int .i64 N, .int .i64 off, .string Z] 39)).heap.size (w.alloc (.cells #[.bool false, .int .i64 N, .int .i64 off, .string Z] 39)) w1) :
    LdW w w.heap.size w1.heap.size N off Z m (w1.alloc (.cells #[.int .i64 (m.y : Int), .int .i64 (m.mo : Int), .int .i64 (m.d : Int), .int .i64 (m.h : Int), .int .i64 (m.mi : Int), .int .i64 (m.s : Int), .int .i64 (m.na : Int)] 106)) := by
  have h0 := heap_alloc_new w (.cells #[.bool false, .int .i64 N, .int .i64 off, .string Z] 39)
  have hl := lt_of_block h0
  have h1 := (hb.block _ hl).trans h0
  have h2 := (heap_alloc_old w1 (.cells #[.int .i64 (m.y : Int), .int .i64 (m.mo : Int), .int .i64 (m.d : Int), .int .i64 (m.h : Int), .int .i64 (m.mi : Int), .int .i64 (m.s : Int), .int .i64 (m.na : Int)] 106) (lt_of_block h1)).trans h1
  have h3 := heap_alloc_new w1 (.cells #[.int .i64 (m.y : Int), .int .i64 (m.mo : Int), .int .i64 (m.d : Int), .int .i64 (m.h : Int), .int .i64 (m.mi : Int), .int .i64 (m.s : Int), .int .i64 (m.na : Int)] 106)
  have hs := hb.size
  simp only [World.size_alloc] at hs
  have c := fun (i : Nat) => cell_of_row _ _ i _ _ _ h2
  have d := fun (i : Nat) => cell_of_row _ _ i _ _ _ h3
  exact ⟨((((Below.refl w.heap.size w).alloc (Nat.le_refl _) _).trans (hb.mono (by simp))).alloc (by omega) _), lt_of_block h2, lt_of_block h3, c 0, c 1, c 2, c 3, d 0, d 1, d 2, d 3, d 4, d 5, d 6⟩

/-- What the loop of ZLaid keeps. -/
def LdRel (w0 : World) (p q : Nat) (N off : Int) (Z : ByteArray) (m : Mo) (l : ByteArray) (v6 v7 : Value) (wr : World) : Prop :=
  ∃ (o : ByteArray) (i : Nat), v6 = .string o ∧ v7 = .int .i64 (i : Int) ∧ i ≤ l.size ∧ bts o ++ lay (txt m) ((bts l).drop i) = lay (txt m) (bts l) ∧ o.size ≤ 300 * i ∧ LdW w0 p q N off Z m wr

set_option maxRecDepth 100000 in
set_option maxHeartbeats 4000000 in
theorem laid_any (N off : Int) (Z l : ByteArray) (w : World) (hp : Pow w) (hH : 11 ≤ w.heap.size) (hT : NameTab 0 chunks w.heap.size w) (h1 : -9223372036854775808 ≤ N) (h2 : N ≤ 9223372036854775807) (h4 : -86400 < off) (h5 : off < 86400) (h6 : off % 60 = 0) (h7 : Z.size ≤ 200) (hl : l.size ≤ 600) :
    Calls Tryz.prog 23 #[moV false N off Z, .string l] w fun r w' => ∃ s : ByteArray, r = .returned (.string s) ∧ bts s = lay (txt (moOf N off (bts Z))) (bts l) ∧ Below w.heap.size w w' := by
  have ok := moOf_ok (zone := bts Z) h1 h2 h4 h5 h6 (by rw [bts_length]; exact h7)
  have HC := Lib.hid (fun (i : Nat) (W : World) (hi : i < l.size) (hb : Below w.heap.size w W) => chunk_any l i hi (by omega) W (nameTab_mono (hT.below hb) hb.size))
  have HN := Lib.hid (fun (x : ByteArray) (std : Int) (W : World) (hx : Wr (bts x) std) (hs : x.size ≤ 1000) (hb : Below w.heap.size w W) => written_any (x := x) (std := std) W (hp.belowB hb hH) (Nat.le_trans hH hb.size) h1 h2 h4 h5 h6 h7 hx hs)
  have HA := Lib.hid (fun W => at_any N off W h1 h2 h4 h5)
  have eA : atV (moOf N off []).y (moOf N off []).mo (moOf N off []).d (moOf N off []).h (moOf N off []).mi (moOf N off []).s (moOf N off []).na = atV (moOf N off (bts Z)).y (moOf N off (bts Z)).mo (moOf N off (bts Z)).d (moOf N off (bts Z)).h (moOf N off (bts Z)).mi (moOf N off (bts Z)).s (moOf N off (bts Z)).na := rfl
  rw [eA] at HA
  obtain ⟨m, hm⟩ : ∃ m, m = moOf N off (bts Z) := ⟨_, rfl⟩
  rw [← hm] at HA HN ok ⊢
  have HK := Lib.hid (And.intro ok hl)
  have hl' : (l.size : Int) ≤ 600 := by omega
  clear ok hp hH hT h1 h2 h4 h5 h6 h7 hl hm eA
  unfold moV atV at *
  go_enter Tryz.func23, Tryz.ntmps23
  go_wp2_with fail
  go_at_call 52
  refine (HA.out _).mono ?_
  rintro r w1 ⟨rfl, hb1⟩
  have hW := ldW_new m hb1
  have HW := Lib.hid hW
  have HB := Lib.hid hb1
  clear hW hb1
  go_wp2_with fail
  go_loopw [6, 7] (fun v6 v7 wr => LdRel w w.heap.size w1.heap.size N off Z m l v6 v7 wr) (fun _ v7 _ => l.size - (intOf v7).toNat)
  case atStart => exact ⟨⟨#[]⟩, 0, rfl, rfl, Nat.zero_le _, by rw [List.drop_zero]; rfl, Nat.zero_le _, HW.out⟩
  case round =>
    obtain ⟨o, i, rfl, rfl, hi, hT, ho, hW⟩ := hrel
    have HW1 := Lib.hid hW
    have HT := Lib.hid (And.intro hi (And.intro hT ho))
    by_cases hlt : i < l.size
    · have hltI : (i : Int) < (l.size : Int) := by omega
      have Hlt := Lib.hid hlt
      clear hi hT ho hW hlt
      go_wp2_with fail
      go_at_call 53
      refine (HC.out i _ Hlt.out HW1.out.below).mono ?_
      rintro r w2 ⟨x, rfl, hx, hb2⟩
      have hW2 := HW1.out.step hb2
      have HW2 := Lib.hid hW2
      obtain ⟨hz0, hz1⟩ := zc_ck ((bts l).drop i)
      have hd := bts_drop l i Hlt.out
      cases hck : ck ((bts l).drop i) with
      | none =>
        have hx0 : x.size = 0 := by rw [← bts_length, hx, hz0 hck]; rfl
        have hxe := isEmpty_yes hx0
        have hi1 : (i : Int) + 1 ≤ (l.size : Int) := by omega
        have hos : o.size ≤ 180000 := by have := HT.out.2.2; have := Hlt.out; omega
        have hes : (l.extract i (i + 1)).size = 1 := by rw [ByteArray.size_extract]; have := Hlt.out; omega
        have k2 : ¬ (9223372036854775807 < o.size + (l.extract i (i + 1)).size) := by omega
        have HX := Lib.hid (And.intro hck (And.intro hd hes))
        clear hx hz0 hz1 hck hd hW2 hb2 hx0 hos hes
        go_wp2
        refine ⟨⟨o ++ l.extract i (i + 1), i + 1, rfl, by go_num, Hlt.out, ?_, ?_, HW2.out⟩, ?_⟩
        · rw [← HT.out.2.1, HX.out.2.1]
          have hn := lay_none (txt m) (by rw [← HX.out.2.1]; exact HX.out.1 : ck (l[i]'Hlt.out :: (bts l).drop (i + 1)) = none)
          rw [hn, bts_app, bts_extract, HX.out.2.1, Nat.add_sub_cancel_left, List.take_succ_cons, List.take_zero]
          simp
        · rw [ByteArray.size_append, HX.out.2.2]
          have := HT.out.2.2
          omega
        · have := Hlt.out
          simp [intOf]
          omega
      | some c =>
        obtain ⟨std, k⟩ := c
        obtain ⟨hk1, hk2⟩ := ck_len hck
        obtain ⟨hz2, hz3⟩ := hz1 std k hck
        rw [← hx] at hz2
        rw [← hz2] at hz3
        have hxk : x.size = k := by rw [← bts_length, hz2, List.length_take]; omega
        rw [List.length_drop, bts_length] at hk2
        have hxe := isEmpty_no (show 0 < x.size by omega)
        have hxs : x.size ≤ 600 := by have := HK.out.2; omega
        have hxI : (x.size : Int) ≤ 600 := by omega
        have hx0 : (0 : Int) ≤ (x.size : Int) := by omega
        have Hn := Lib.hid (fun W (hb : Below w.heap.size w W) => HN.out x std W hz3 (by omega) hb)
        have t0 := hW2.t0
        have t1 := hW2.t1
        have t2 := hW2.t2
        have t3 := hW2.t3
        have c0 := hW2.c0
        have c1 := hW2.c1
        have c2 := hW2.c2
        have c3 := hW2.c3
        have c4 := hW2.c4
        have c5 := hW2.c5
        have c6 := hW2.c6
        have HX := Lib.hid (And.intro hck (And.intro hxk (And.intro hk1 hk2)))
        clear hx hz0 hz1 hck hd hW2 hb2 hz2 hz3 hxk hk1 hk2 hxs
        go_wp2_with fail
        go_at_call 54
        refine (Hn.out _ HW2.out.below).mono ?_
        rintro r w3 ⟨s, rfl, hs, hb3⟩
        have hsl : s.size ≤ 300 := by rw [← bts_length, hs]; exact txt_len HK.out.1 std
        have hos : o.size ≤ 180000 := by have := HT.out.2.2; have := Hlt.out; have := HK.out.2; omega
        have k2 : ¬ (9223372036854775807 < o.size + s.size) := by omega
        have HS := Lib.hid (And.intro hs (And.intro hsl (HW2.out.step hb3)))
        clear hs hsl hos hb3 t0 t1 t2 t3 c0 c1 c2 c3 c4 c5 c6
        go_wp2
        refine ⟨⟨o ++ s, i + x.size, rfl, by go_num, ?_, ?_, ?_, HS.out.2.2⟩, ?_⟩
        · have := HX.out.2.2.2; have := HX.out.2.1; have := Hlt.out; omega
        · rw [← HT.out.2.1, lay_some (txt m) HX.out.1, bts_app, HS.out.1, HX.out.2.1, List.drop_drop]
          simp
        · rw [ByteArray.size_append]
          have := HT.out.2.2
          have := HS.out.2.1
          have := HX.out.2.2.1
          have := HX.out.2.1
          omega
        · have := Hlt.out
          have := HX.out.2.2.1
          have := HX.out.2.1
          simp [intOf]
          omega
    · have hge : (l.size : Int) ≤ (i : Int) := by omega
      have hie : i = l.size := by omega
      have Hie := Lib.hid hie
      clear hi hT ho hW hlt hie
      go_wp2
      go_ret
      refine ⟨o, rfl, ?_, HW1.out.below⟩
      have e : (bts l).drop i = [] := List.drop_eq_nil_of_le (by rw [bts_length]; have := Hie.out; omega)
      have h := HT.out.2.1
      rw [e] at h
      rw [← h]
      simp [lay_nil]
end Go.Proofs.YtchmhdmapknmfaaGreatDoor

/-
  FnZLayouts: for every moment and every layout the law answers true.
-/
namespace Go.Proofs.YtchmhdmapknmfaaGreatDoor
open Go.RowKit

/-- ZLaid in a world where the moment's block stands. -/
def LdSays (N off : Int) (Z : ByteArray) (w : World) (v : Value) (l s : ByteArray) : Prop :=
  ∀ W, LpS false N off Z w W → Calls Tryz.prog 23 #[v, .string l] W fun r w' => r = .returned (.string s) ∧ LpS false N off Z w w' ∧
    w'.cell? ⟨w.heap.size, 0, none⟩ = some (.bool false) ∧ w'.cell? ⟨w.heap.size, 1, none⟩ = some (.int .i64 N) ∧ w'.cell? ⟨w.heap.size, 2, none⟩ = some (.int .i64 off) ∧ w'.cell? ⟨w.heap.size, 3, none⟩ = some (.string Z)

theorem ldSays_any {N off : Int} {Z l s : ByteArray} {w : World} (hp : Pow w) (hH : 11 ≤ w.heap.size) (hT : NameTab 0 Ly.chunks w.heap.size w) (h1 : -9223372036854775808 ≤ N) (h2 : N ≤ 9223372036854775807) (h4 : -86400 < off) (h5 : off < 86400) (h6 : off % 60 = 0) (h7 : Z.size ≤ 200) (hl : l.size ≤ 600)
    (hs : s = ⟨(Ly.lay (Ly.txt (Ly.moOf N off (bts Z))) (bts l)).toArray⟩) : LdSays N off Z w (moV false N off Z) l s := by
  intro W hW
  have hb0 := hW.below
  refine (laid_any N off Z l W (hp.belowB hb0 hH) (Nat.le_trans hH hb0.size) (nameTab_mono (hT.below hb0) hb0.size) h1 h2 h4 h5 h6 h7 hl).mono ?_
  rintro r w' ⟨t, rfl, ht, hb⟩
  have h3 := hW.step hb
  have e : t = s := bts_ext (by rw [ht, hs])
  exact ⟨by rw [e], h3, mo_cells w N off Z false w' h3⟩

set_option maxRecDepth 100000 in
set_option maxHeartbeats 8000000 in
theorem layouts_main (N off : Int) (Z a : ByteArray) (w : World) (hT : Tabs w) (hp : Pow w) (hC : NameTab 0 Ly.chunks w.heap.size w) (h1 : -9223372036854775808 ≤ N) (h2 : N ≤ 9223372036854775807) (h4 : -86400 < off) (h5 : off < 86400) (h6 : off % 60 = 0) (h7 : Z.size ≤ 200) (hl : a.size ≤ 500) :
    Calls Tryz.prog 7 #[moV false N off Z, .string a] w fun r w' => r = .returned (.bool true) ∧ Below w.heap.size w w' := by
  obtain ⟨s2, hs2⟩ : ∃ s : ByteArray, s = ⟨(Ly.lay (Ly.txt (Ly.moOf N off (bts Z))) (bts a)).toArray⟩ := ⟨_, rfl⟩
  have H1 := Lib.hid (ltSays_any (N := N) (off := off) (Z := Z) (l := a) (s := s2) hT h1 h2 h4 h5 h6 h7 (by omega) hs2)
  have H2 := Lib.hid (ldSays_any (N := N) (off := off) (Z := Z) (l := a) (s := s2) hp hT.H hC h1 h2 h4 h5 h6 h7 (by omega) hs2)
  have H4 := Lib.hid (ltSays_any (N := N) (off := off) (Z := Z) (N' := 0) (off' := 0) (Z' := ⟨#[]⟩) (l := ⟨#[50, 48, 48, 54]⟩) (s := ⟨#[49, 57, 55, 48]⟩) hT (by omega) (by omega) (by omega) (by omega) (by omega) (by decide) (by decide) (by
    have e : bts ⟨#[50, 48, 48, 54]⟩ = [50, 48, 48, 54] := rfl
    rw [e, year_zero]))
  have Hf := Lib.hid (fun W => fits10_yes false N off Z (by omega) W)
  have Hy := Lib.hid (fun W => years_yes N off Z h4 h5 h6 W)
  have c2 : (Z.size : Int) ≤ 200 := by omega
  have c3 : (a.size : Int) ≤ 500 := by omega
  clear hs2 hT hp hC h1 h2 h4 h5 h6 h7 hl
  unfold moV at H1 H2 H4 Hf Hy ⊢
  go_enter Tryz.func7, Tryz.ntmps7
  go_wp2_with fail
  go_at_call 20
  refine (Hf.out _).mono ?_
  rintro r w1 ⟨rfl, hb1⟩
  have hL1 := LpS.start hb1
  obtain ⟨d0, d1, d2, d3⟩ := mo_cells w N off Z false w1 hL1
  have HL1 := Lib.hid hL1
  clear hb1 hL1
  go_wp2_with fail
  go_at_call 21
  refine (Hy.out _).mono ?_
  rintro r w2 ⟨rfl, hb2⟩
  have hL2 := HL1.out.step hb2
  clear d0 d1 d2 d3 hb2
  obtain ⟨d0, d1, d2, d3⟩ := mo_cells w N off Z false w2 hL2
  have hL3 : LpS false N off Z w w2.drew := Below.drew hL2
  clear hL2
  go_wp2_with fail
  go_region_held3 (fun w' => w'.cell? ⟨w.heap.size, 0, none⟩ = some (.bool false) ∧ w'.cell? ⟨w.heap.size, 1, none⟩ = some (.int .i64 N) ∧ w'.cell? ⟨w.heap.size, 2, none⟩ = some (.int .i64 off) ∧ w'.cell? ⟨w.heap.size, 3, none⟩ = some (.string Z) ∧ LpS false N off Z w w') (go_keep) (first
    | (go_at_call 22; refine (H1.out _ (by assumption)).mono ?_; rintro r w' ⟨rfl, hl, d0, d1, d2, d3⟩)
    | (go_at_call 23; refine (H2.out _ (by assumption)).mono ?_; rintro r w' ⟨rfl, hl, d0, d1, d2, d3⟩)
    | (go_at_call 22; refine (H4.out _ (by assumption)).mono ?_; rintro r w' ⟨rfl, hl, d0, d1, d2, d3⟩))
  all_goals
    go_wp2
    go_ret
    exact ⟨rfl, LpS.below (by assumption)⟩

set_option maxRecDepth 100000 in
set_option maxHeartbeats 4000000 in
theorem layouts_big1 (zb : Bool) (N off : Int) (Z a : ByteArray) (w : World) (h1 : 2147483647 < Z.size) : Calls Tryz.prog 7 #[moV zb N off Z, .string a] w fun r w' => r = .returned (.bool true) ∧ Below w.heap.size w w' := by
  have Hf := Lib.hid (fun W => fits10_no zb N off Z (by omega) W)
  clear h1
  unfold moV at Hf ⊢
  go_enter Tryz.func7, Tryz.ntmps7
  go_wp2_with fail
  go_at_call 20
  refine (Hf.out _).mono ?_
  rintro r w1 ⟨rfl, hb1⟩
  have HL1 := Lib.hid (LpS.start hb1)
  clear hb1
  go_wp2
  go_ret
  exact ⟨rfl, HL1.out.below⟩

set_option maxRecDepth 100000 in
set_option maxHeartbeats 4000000 in
theorem layouts_big2 (zb : Bool) (N off : Int) (Z a : ByteArray) (w : World) (h1 : Z.size ≤ 2147483647) (h2 : 2147483647 < a.size) : Calls Tryz.prog 7 #[moV zb N off Z, .string a] w fun r w' => r = .returned (.bool true) ∧ Below w.heap.size w w' := by
  have Hf := Lib.hid (fun W => fits10_yes zb N off Z (by omega) W)
  have c1 : (2147483647 : Int) < (a.size : Int) := by omega
  clear h1 h2
  unfold moV at Hf ⊢
  go_enter Tryz.func7, Tryz.ntmps7
  go_wp2_with fail
  go_at_call 20
  refine (Hf.out _).mono ?_
  rintro r w1 ⟨rfl, hb1⟩
  have HL1 := Lib.hid (LpS.start hb1)
  clear hb1
  go_wp2
  go_ret
  exact ⟨rfl, HL1.out.below⟩

set_option maxRecDepth 100000 in
set_option maxHeartbeats 4000000 in
theorem layouts_awake1 (zb : Bool) (N off : Int) (Z a : ByteArray) (w : World) (hT : Tabs w) (hp : Pow w) (h1 : Z.size ≤ 2147483647) (h2 : a.size ≤ 2147483647) (h4 : ¬ (zb = false ∧ -86400 < off ∧ off < 86400 ∧ off % 60 = 0)) :
    Calls Tryz.prog 7 #[moV zb N off Z, .string a] w fun r w' => r = .returned (.bool true) ∧ Below w.heap.size w w' := by
  have Hf := Lib.hid (fun W => fits10_yes zb N off Z (by omega) W)
  have Hy := Lib.hid (fun W => years_no zb N off Z h4 W)
  have Ha := Lib.hid (fun (W : World) (hb : Below w.heap.size w W) => awake W (hp.belowB hb hT.H) (Nat.le_trans hT.H hb.size))
  have c1 : (a.size : Int) ≤ 2147483647 := by omega
  clear hT hp h1 h2 h4
  unfold moV at Hf Hy ⊢
  go_enter Tryz.func7, Tryz.ntmps7
  go_wp2_with fail
  go_at_call 20
  refine (Hf.out _).mono ?_
  rintro r w1 ⟨rfl, hb1⟩
  have hL1 := LpS.start hb1
  obtain ⟨d0, d1, d2, d3⟩ := mo_cells w N off Z zb w1 hL1
  have HL1 := Lib.hid hL1
  clear hb1 hL1
  go_wp2_with fail
  go_at_call 21
  refine (Hy.out _).mono ?_
  rintro r w2 ⟨rfl, hb2⟩
  have hL2 := HL1.out.step hb2
  clear d0 d1 d2 d3 hb2
  obtain ⟨d0, d1, d2, d3⟩ := mo_cells w N off Z zb w2 hL2
  have HL2 := Lib.hid hL2
  clear hL2
  go_wp2_with fail
  go_at_call 17
  refine (Ha.out _ HL2.out.below).mono ?_
  rintro r w3 ⟨rfl, hb3⟩
  have Hb3 := Lib.hid (HL2.out.below.trans (hb3.mono HL2.out.below.size))
  clear hb3 d0 d1 d2 d3
  go_wp2
  go_ret
  exact ⟨rfl, Hb3.out⟩

set_option maxRecDepth 100000 in
set_option maxHeartbeats 4000000 in
theorem layouts_awake2  (N off : Int) (Z a : ByteArray) (w : World) (hT : Tabs w) (hp : Pow w) (h1 : Z.size ≤ 2147483647) (h2 : a.size ≤ 2147483647) (h4 : -86400 < off) (h5 : off < 86400) (h6 : off % 60 = 0) (h7 : 500 < a.size) :
    Calls Tryz.prog 7 #[moV false N off Z, .string a] w fun r w' => r = .returned (.bool true) ∧ Below w.heap.size w w' := by
  have Hf := Lib.hid (fun W => fits10_yes false N off Z (by omega) W)
  have Hy := Lib.hid (fun W => years_yes N off Z h4 h5 h6 W)
  have Ha := Lib.hid (fun (W : World) (hb : Below w.heap.size w W) => awake W (hp.belowB hb hT.H) (Nat.le_trans hT.H hb.size))
  have c1 : (a.size : Int) ≤ 2147483647 := by omega
  have c3 : (500 : Int) < (a.size : Int) := by omega
  clear hT hp h1 h2 h4 h5 h6 h7
  unfold moV at Hf Hy ⊢
  go_enter Tryz.func7, Tryz.ntmps7
  go_wp2_with fail
  go_at_call 20
  refine (Hf.out _).mono ?_
  rintro r w1 ⟨rfl, hb1⟩
  have hL1 := LpS.start hb1
  obtain ⟨d0, d1, d2, d3⟩ := mo_cells w N off Z false w1 hL1
  have HL1 := Lib.hid hL1
  clear hb1 hL1
  go_wp2_with fail
  go_at_call 21
  refine (Hy.out _).mono ?_
  rintro r w2 ⟨rfl, hb2⟩
  have hL2 := HL1.out.step hb2
  clear d0 d1 d2 d3 hb2
  obtain ⟨d0, d1, d2, d3⟩ := mo_cells w N off Z false w2 hL2
  have HL2 := Lib.hid hL2
  clear hL2
  go_wp2_with fail
  go_at_call 17
  refine (Ha.out _ HL2.out.below).mono ?_
  rintro r w3 ⟨rfl, hb3⟩
  have Hb3 := Lib.hid (HL2.out.below.trans (hb3.mono HL2.out.below.size))
  clear hb3 d0 d1 d2 d3
  go_wp2
  go_ret
  exact ⟨rfl, Hb3.out⟩

set_option maxRecDepth 100000 in
set_option maxHeartbeats 4000000 in
theorem layouts_awake3  (N off : Int) (Z a : ByteArray) (w : World) (hT : Tabs w) (hp : Pow w) (h1 : Z.size ≤ 2147483647) (h2 : a.size ≤ 2147483647) (h4 : -86400 < off) (h5 : off < 86400) (h6 : off % 60 = 0) (h7 : a.size ≤ 500) (h8 : 200 < Z.size) :
    Calls Tryz.prog 7 #[moV false N off Z, .string a] w fun r w' => r = .returned (.bool true) ∧ Below w.heap.size w w' := by
  have Hf := Lib.hid (fun W => fits10_yes false N off Z (by omega) W)
  have Hy := Lib.hid (fun W => years_yes N off Z h4 h5 h6 W)
  have Ha := Lib.hid (fun (W : World) (hb : Below w.heap.size w W) => awake W (hp.belowB hb hT.H) (Nat.le_trans hT.H hb.size))
  have c3 : (a.size : Int) ≤ 500 := by omega
  have c4 : (200 : Int) < (Z.size : Int) := by omega
  clear hT hp h1 h2 h4 h5 h6 h7 h8
  unfold moV at Hf Hy ⊢
  go_enter Tryz.func7, Tryz.ntmps7
  go_wp2_with fail
  go_at_call 20
  refine (Hf.out _).mono ?_
  rintro r w1 ⟨rfl, hb1⟩
  have hL1 := LpS.start hb1
  obtain ⟨d0, d1, d2, d3⟩ := mo_cells w N off Z false w1 hL1
  have HL1 := Lib.hid hL1
  clear hb1 hL1
  go_wp2_with fail
  go_at_call 21
  refine (Hy.out _).mono ?_
  rintro r w2 ⟨rfl, hb2⟩
  have hL2 := HL1.out.step hb2
  clear d0 d1 d2 d3 hb2
  obtain ⟨d0, d1, d2, d3⟩ := mo_cells w N off Z false w2 hL2
  have HL2 := Lib.hid hL2
  clear hL2
  go_wp2_with fail
  go_at_call 17
  refine (Ha.out _ HL2.out.below).mono ?_
  rintro r w3 ⟨rfl, hb3⟩
  have Hb3 := Lib.hid (HL2.out.below.trans (hb3.mono HL2.out.below.size))
  clear hb3 d0 d1 d2 d3
  go_wp2
  go_ret
  exact ⟨rfl, Hb3.out⟩

theorem layouts_law (zb : Bool) (N off : Int) (Z a : ByteArray) (w : World) (hT : Tabs w) (hp : Pow w) (hC : NameTab 0 Ly.chunks w.heap.size w) (n1 : -9223372036854775808 ≤ N) (n2 : N ≤ 9223372036854775807) :
    Calls Tryz.prog 7 #[moV zb N off Z, .string a] w fun r w' => r = .returned (.bool true) ∧ Below w.heap.size w w' := by
  by_cases h1 : Z.size ≤ 2147483647
  · by_cases h2 : a.size ≤ 2147483647
    · by_cases h4 : zb = false ∧ -86400 < off ∧ off < 86400 ∧ off % 60 = 0
      · obtain ⟨rfl, h5, h6, h7⟩ := h4
        by_cases h8 : a.size ≤ 500
        · by_cases h9 : Z.size ≤ 200
          · exact layouts_main N off Z a w hT hp hC n1 n2 h5 h6 h7 h9 h8
          · exact layouts_awake3 N off Z a w hT hp h1 h2 h5 h6 h7 h8 (by omega)
        · exact layouts_awake2 N off Z a w hT hp h1 h2 h5 h6 h7 (by omega)
      · exact layouts_awake1 zb N off Z a w hT hp h1 h2 h4
    · exact layouts_big2 zb N off Z a w h1 (by omega)
  · exact layouts_big1 zb N off Z a w (by omega)
end Go.Proofs.YtchmhdmapknmfaaGreatDoor

/-
  FnZLayouts: for every moment and every layout the law answers true, what it reads stays as it was: the row, lifted from the walks. Conditions: the listed package-level variables hold what the program's text lays in them (tied).
-/
namespace Go.Proofs.YtchmhdmapknmfaaGreatDoor
open Go.RowKit Go.ChangeShapes Go.WideShapes Go.ChangeAt
open Go.ChangeMaps (open_string shut_string)

theorem chunks_data : (Rows.laid_given_example_pub_quill_spec_zChunks : DataW Unit) = DataW.slice (Ly.chunks.map fun x => .lit (.string x)) [] := by kernel_rfl

set_option maxRecDepth 100000 in
theorem layouts_lifted (os : Os) (started : os.Started) (H : Type) (enc : TypeId × Value → H) :
    ReturnsInHanded {} Tryz.checked os 7 .any (fun w args => (Rows.fnZLayoutsSpec.pre enc Tryz.prog Tryz.f7 [] false w args ∧ laidMetH Tryz.prog Rows.fnZLayoutsRow.laid w) ∧ sizedMet enc Tryz.prog Tryz.f7 (OpenSpec.ofChange Rows.fnZLayoutsSpec) false w args)
      (Rows.fnZLayoutsSpec.post enc Tryz.prog Tryz.f7 false true false false) := by
  refine returnsInHanded_of_change_and (C := Tryz.checked) (X := fun w _ => laidMetH Tryz.prog Rows.fnZLayoutsRow.laid w) (fun _ _ _ hh h => h.of_heap hh) Tryz.own started (by kernel_rfl) Tryz.func7
    (ChangeSpec.witness_shaped (enc := enc) (C := Tryz.checked) (os := os) (X := fun w _ => laidMetH Tryz.prog Rows.fnZLayoutsRow.laid w) false (World.laidAll Tryz.prog os Rows.fnZLayoutsRow.laid) #[.agg #[.bool false, .int .i64 0, .int .i64 0, .string ⟨#[]⟩], .string ⟨#[]⟩] 8 (World.laidAll_os _ _ _)
      (World.shaped_of_ZipB (by kernel_rfl) (by kernel_rfl)) (by kernel_rfl) (by kernel_rfl) (by kernel_rfl)
      (by rw [MakeChecks.laidMetH_plain _ _ _ (by kernel_rfl)]; exact laidMet_laidAll _ (by kernel_rfl) (by kernel_rfl))) ?_
  intro W base args ds gs before hval0 hW _ _ hL _
  have hval : ∀ (j : Nat) t v, Tryz.f7.params[j]? = some t → args[j]? = some v → Value.okWide Tryz.prog W .any base t v := hval0
  have hW' := hW
  obtain ⟨p, q, hA0, hV, rfl, _, _⟩ := hW
  have hA : DataW.TrodAll enc Tryz.prog W 0 (fun _ => true) true Tryz.f7.params.toList args.toList ds p := hA0
  rw [Tryz.params7] at hA hval
  obtain ⟨v0, v1, d0, d1, p0, p1, rfl, rfl, hps, h0, h1⟩ := trodAll_two hA
  obtain ⟨zb, N, off, Z, rfl, n1, n2, rfl, hback⟩ := open_moment (hval 0 39 v0 rfl rfl) h0
  obtain ⟨a, rfl, rfl, rfl, wa⟩ := open_string Tryz.underlying9 (hval 1 9 v1 rfl rfl) h1
  have hps' : p = [] := hps
  subst hps'
  obtain ⟨g1, g2, g3, g4, rfl⟩ := vars4 hV
  rw [MakeChecks.laidMetH_plain _ _ _ (by kernel_rfl)] at hL
  have hp : Pow W := pow_of_reads (pow10_data ▸ Lib.laidMet.reads hL (by simp [Rows.fnZLayoutsRow]))
  have hH : 11 ≤ W.heap.size := heap11 (d := Rows.laid_math_bits_deBruijn64tab) (Lib.laidMet.reads hL (by simp [Rows.fnZLayoutsRow]))
  have hT : Tabs W := tabs_of_reads (Lib.laidMet.reads hL (by simp [Rows.fnZLayoutsRow])) (Lib.laidMet.reads hL (by simp [Rows.fnZLayoutsRow])) (Lib.laidMet.reads hL (by simp [Rows.fnZLayoutsRow])) hH
  have hr : Lib.VarReads Tryz.prog W "given.example/pub-quill/spec.zChunks" (Rows.laid_given_example_pub_quill_spec_zChunks : DataW Unit) := Lib.laidMet.reads hL (by simp [Rows.fnZLayoutsRow])
  rw [chunks_data] at hr
  have hC : NameTab 0 Ly.chunks W.heap.size W := names_of_reads (g := 0) (by decide) (by kernel_rfl) (by kernel_rfl) hr
  have key := layouts_law zb N off Z a W hT hp hC n1 n2
  refine key.mono fun e W' ⟨he, hb⟩ => ?_
  subst he
  exact ⟨_, rfl, _, _, _, [], [], q, hW', trodAll_mk1 (shut_bool Tryz.underlying4 _), trodAll_mk2 (hback W' _) (shut_string Tryz.underlying9 wa), hb.trodVars Tryz.laidOut (by kernel_rfl) hV, hb.frame _, fun h => by cases h⟩
end Go.Proofs.YtchmhdmapknmfaaGreatDoor

/-
  FnZLayouts: the row, out of its lift.
-/
namespace Go.Proofs.YtchmhdmapknmfaaGreatDoor
open Go.RowKit Go.ChangeShapes Go.WideShapes Go.ChangeAt

set_option maxRecDepth 100000 in
set_option maxHeartbeats 4000000 in
theorem layouts_row : Rows.FnZLayoutsSaid :=
  OpenClaim.holds_of_wide 7 Tryz.f7 rfl rfl rfl rfl rfl rfl rfl ⟨rfl, rfl, rfl, rfl, rfl⟩ rfl rfl rfl rfl rfl (by as_aux_lemma => kernel_rfl) Tryz.func7 F7.facts
    (of_decide_eq_true (by as_aux_lemma => kernel_rfl)) (by unfold Func.isWrapper; rw [if_neg (of_decide_eq_false (by as_aux_lemma => kernel_rfl))]; exact ⟨rfl, rfl⟩)
    (fun os started H enc _ => layouts_lifted os started H enc)

end Go.Proofs.YtchmhdmapknmfaaGreatDoor
