/-
  A BufferedWriteSyncer: its state; it is initialized.
-/
import Derived.Test.YtchmhdmapknmfaaGreatDoorWf
import Derived.Deep.OwnRows
namespace Go.Proofs.YtchmhdmapknmfaaGreatDoor
open Go.RowKit

/-- Block s is a syncer over block b. -/
structure BsIs (B b s sz : Nat) (n : Int) (st : Zb) (w : World) : Prop where
  out : OutIs B b st.out w
  sy : ∃ wv, w.heap[s]? = some (.cells #[.iface 128 (.pointer (some ⟨b, 0, none⟩)), .int .i64 n, .bool st.begun, .bool st.stopped, wv] 134 (0, 0)) ∧
    (st.begun = true → ∃ q bf, wv = .pointer (some ⟨q, 0, none⟩) ∧ B ≤ q ∧ B ≤ bf ∧ WrIs b q bf sz st.wait.size w ∧ BfIs bf sz st.wait w)
  lb : B ≤ b
  ls : B ≤ s
  lw : B ≤ w.heap.size

theorem assert_below (v : Value) (w : World) : (Instr.typeAssert (.iface 128 v) 207 132 true).run Tryz.prog w = .ok (.tuple #[.pointer none, .bool false]) w := by kernel_rfl

theorem made_cur (sz : Nat) : (madeCells #[(.int .u8 0 : Value)] sz) = (List.replicate sz (.int .u8 0 : Value)).toArray := by
  apply Array.ext'
  rw [toList_madeCells_one]

/-- A new writer. -/
def NwPost (b sz : Nat) (w0 : World) (r : Ending) (w' : World) : Prop := ∃ q bf, r = .returned (.pointer (some ⟨q, 0, none⟩)) ∧ w0.heap.size ≤ q ∧ w0.heap.size ≤ bf ∧ WrIs b q bf sz 0 w' ∧ BfIs bf sz ⟨#[]⟩ w' ∧ KT [] w0.heap.size w0 w'

theorem new_writer (b sz : Nat) (w : World) : ∀ w', w' = (w.alloc (.cells (madeCells #[.int .u8 0] sz) 5)).alloc (.cells #[.nilIface, .slice (some ⟨w.heap.size, 0, none⟩) sz sz, .int .i64 0, .iface 128 (.pointer (some ⟨b, 0, none⟩))] 209) →
    WrIs b (w.heap.size + 1) w.heap.size sz 0 w' ∧ BfIs w.heap.size sz ⟨#[]⟩ w' ∧ KT [] w.heap.size w w' := by
  rintro w' rfl
  refine ⟨?_, ⟨List.replicate sz (.int .u8 0), ?_, by simp, Nat.zero_le _, fun j hj => ?_⟩, ((KT.refl [] w.heap.size w).alloc (Nat.le_refl _) _).alloc (Nat.le_refl _) _⟩
  · unfold WrIs
    have := heap_alloc_new (w.alloc (.cells (madeCells #[.int .u8 0] sz) 5)) (.cells #[.nilIface, .slice (some ⟨w.heap.size, 0, none⟩) sz sz, .int .i64 0, .iface 128 (.pointer (some ⟨b, 0, none⟩))] 209)
    rw [World.size_alloc] at this
    exact this
  · rw [heap_alloc_old _ _ (by simp), ← made_cur]
    exact heap_alloc_new w _
  · exact absurd hj (by simp)

set_option maxRecDepth 100000 in
set_option maxHeartbeats 1000000 in
theorem newWriter_any {b sz : Nat} (n : Int) (w : World) (hs : (sz : Int) = if n ≤ 0 then 4096 else n) (hsz : sz ≤ 300000) : Calls Tryz.prog 137 #[.iface 128 (.pointer (some ⟨b, 0, none⟩)), .int .i64 n] w (NwPost b sz w) := by
  obtain ⟨i0, hi, hz0, hz1, hz2⟩ := info_parts Tryz.info5
  have hmk := fun w => run_make_row (P := Tryz.prog) 101 5 i0 (.int .u8 0) Tryz.underlying101 hi hz0 hz1 rfl .i64 .i64 sz (by rw [hz2]; omega) (by omega) w
  have has := fun w => assert_below (.pointer (some ⟨b, 0, none⟩)) w
  have HN := Lib.hid (fun w => new_writer b sz w)
  by_cases h : n ≤ 0
  · rw [if_pos h] at hs
    obtain rfl : sz = 4096 := by omega
    rw [show (((4096 : Nat) : Int)) = 4096 from rfl] at hmk
    clear hs hsz
    go_enter Tryz.func137, Tryz.ntmps137
    go_wp2
    go_ret
    exact ⟨_, _, rfl, Nat.le_succ _, Nat.le_refl _, HN.out w _ rfl⟩
  · rw [if_neg h] at hs
    subst hs
    have h1 : (0 : Int) < (sz : Int) := by omega
    clear hsz h
    go_enter Tryz.func137, Tryz.ntmps137
    go_wp2
    go_ret
    exact ⟨_, _, rfl, Nat.le_succ _, Nat.le_refl _, HN.out w _ rfl⟩

def SyIs (b s : Nat) (n : Int) (x y : Bool) (wv : Value) (w : World) : Prop := w.heap[s]? = some (.cells #[.iface 128 (.pointer (some ⟨b, 0, none⟩)), .int .i64 n, .bool x, .bool y, wv] 134 (0, 0))
theorem SyIs.cells {b s : Nat} {n : Int} {x y : Bool} {wv : Value} {w : World} (h : SyIs b s n x y wv w) : w.cell? ⟨s, 0, none⟩ = some (.iface 128 (.pointer (some ⟨b, 0, none⟩))) ∧ w.cell? ⟨s, 1, none⟩ = some (.int .i64 n) ∧ w.cell? ⟨s, 2, none⟩ = some (.bool x) ∧
    w.cell? ⟨s, 3, none⟩ = some (.bool y) ∧ w.cell? ⟨s, 4, none⟩ = some wv ∧ w.frozen? ⟨s, 2, none⟩ = false ∧ w.frozen? ⟨s, 3, none⟩ = false ∧ w.frozen? ⟨s, 4, none⟩ = false := by
  unfold SyIs at h
  simp [World.cell?, World.frozen?, h]
theorem SyIs.set2 {b s : Nat} {n : Int} {x y : Bool} {wv : Value} {w : World} (h : SyIs b s n x y wv w) (z : Bool) : SyIs b s n z y wv (w.setCell ⟨s, 2, none⟩ (.bool z)) :=
  heap_set (cs := [.iface 128 (.pointer (some ⟨b, 0, none⟩)), .int .i64 n, .bool x, .bool y, wv]) h 2 _
theorem SyIs.set3 {b s : Nat} {n : Int} {x y : Bool} {wv : Value} {w : World} (h : SyIs b s n x y wv w) (z : Bool) : SyIs b s n x z wv (w.setCell ⟨s, 3, none⟩ (.bool z)) :=
  heap_set (cs := [.iface 128 (.pointer (some ⟨b, 0, none⟩)), .int .i64 n, .bool x, .bool y, wv]) h 3 _
theorem SyIs.set4 {b s : Nat} {n : Int} {x y : Bool} {wv : Value} {w : World} (h : SyIs b s n x y wv w) (v : Value) : SyIs b s n x y v (w.setCell ⟨s, 4, none⟩ v) :=
  heap_set (cs := [.iface 128 (.pointer (some ⟨b, 0, none⟩)), .int .i64 n, .bool x, .bool y, wv]) h 4 _

/-- A writer and its bytes are untouched by a store into the syncer. -/
theorem WrIs.setSy {b q bf sz m s i : Nat} {n : Int} {x y : Bool} {wv v : Value} {w : World} (h : WrIs b q bf sz m w) (hs : SyIs b s n x y wv w) : WrIs b q bf sz m (w.setCell ⟨s, i, none⟩ v) := by
  unfold WrIs at h ⊢
  rw [Below.heap_setCell _ _ _ _ (show q ≠ s from fun e => by unfold SyIs at hs; rw [e, hs] at h; simp at h)]
  exact h
theorem BfIs.setSy {b bf sz s i : Nat} {n : Int} {x y : Bool} {wv v : Value} {w : World} {t : ByteArray} (h : BfIs bf sz t w) (hs : SyIs b s n x y wv w) : BfIs bf sz t (w.setCell ⟨s, i, none⟩ v) := by
  obtain ⟨cur, h1, h2⟩ := h
  refine ⟨cur, ?_, h2⟩
  rw [Below.heap_setCell _ _ _ _ (show bf ≠ s from fun e => by unfold SyIs at hs; rw [e, hs] at h1; simp at h1)]
  exact h1
theorem KT.out {T : List TypeId} {B b : Nat} {w w' : World} {out : List ByteArray} (h : KT T B w w') (ho : OutIs B b out w) (h1 : 130 ∉ T) (h2 : 9 ∉ T) : OutIs B b out w' := by
  obtain ⟨vo, e1, e2⟩ := ho
  refine ⟨vo, h.keep _ _ _ _ e1 h1, row_same e2 fun g hg => ?_⟩
  obtain ⟨c, hc⟩ := row_type e2 hg
  rw [hc]
  exact h.keep _ _ _ _ hc h2

def InPost (B b s sz : Nat) (n : Int) (st : Zb) (w0 : World) (r : Ending) (w' : World) : Prop := r = .returned (.tuple #[]) ∧ BsIs B b s sz n { st with begun := true } w' ∧ KT [134] B w0 w'

set_option maxRecDepth 100000 in
set_option maxHeartbeats 1000000 in
theorem initialize_any {B b s sz : Nat} (n : Int) (st : Zb) (w : World) (h : BsIs B b s sz n st w) (hs : sz = zbSize n) (hn : n ≤ 300000) (hbg : st.begun = false) (hwt : st.wait = ⟨#[]⟩) : Calls Tryz.prog 101 #[.pointer (some ⟨s, 0, none⟩)] w (InPost B b s sz n st w) := by
  obtain ⟨ho, ⟨wv, hsy, -⟩, lb, ls, lw⟩ := h
  rw [hbg] at hsy
  have hsy0 : SyIs b s n false st.stopped wv w := hsy
  obtain ⟨n1, hn1⟩ : ∃ n1 : Int, n1 = if n = 0 then 262144 else n := ⟨_, rfl⟩
  have hsz : (sz : Int) = if n1 ≤ 0 then 4096 else n1 := by
    rw [hs, hn1]
    unfold zbSize
    by_cases h0 : n = 0
    · rw [if_pos h0, if_pos h0, if_neg (by omega)]
      rfl
    · rw [if_neg h0, if_neg h0]
      by_cases h1 : n < 0
      · rw [if_pos h1, if_pos (by omega)]
        rfl
      · rw [if_neg h1, if_neg (by omega)]
        omega
  have Hw := Lib.hid ((newWriter_any (b := b) n1 w hsz (by rw [hs]; exact zbSize_le hn)).mono (fun r w2 (h : NwPost b sz w r w2) => (by
    obtain ⟨q, bf, e, e1, e2, e3, e4, e5⟩ := h
    have hs2 : SyIs b s n false st.stopped wv w2 := e5.keep _ _ _ _ hsy (by simp)
    exact ⟨q, bf, e, hs2.cells, ⟨hs2, e1, e2, e3, e4, ⟨e5.below.mono lw, fun k cs t z e n => e5.keep k cs t z e (by simp)⟩⟩⟩ :
    ∃ q bf, r = .returned (.pointer (some ⟨q, 0, none⟩)) ∧ (w2.cell? ⟨s, 0, none⟩ = some (.iface 128 (.pointer (some ⟨b, 0, none⟩))) ∧ w2.cell? ⟨s, 1, none⟩ = some (.int .i64 n) ∧ w2.cell? ⟨s, 2, none⟩ = some (.bool false) ∧
    w2.cell? ⟨s, 3, none⟩ = some (.bool st.stopped) ∧ w2.cell? ⟨s, 4, none⟩ = some wv ∧ w2.frozen? ⟨s, 2, none⟩ = false ∧ w2.frozen? ⟨s, 3, none⟩ = false ∧ w2.frozen? ⟨s, 4, none⟩ = false) ∧
    (SyIs b s n false st.stopped wv w2 ∧ w.heap.size ≤ q ∧ w.heap.size ≤ bf ∧ WrIs b q bf sz 0 w2 ∧ BfIs bf sz ⟨#[]⟩ w2 ∧ KT [134] B w w2))))
  obtain ⟨c0, c1, c2, c3, c4, f2, f3, f4⟩ := hsy0.cells
  have HA := Lib.hid (And.intro ho (And.intro lb (And.intro ls (And.intro lw hwt))))
  have hfin : ∀ (q bf : Nat) (w2 : World), (SyIs b s n false st.stopped wv w2 ∧ w.heap.size ≤ q ∧ w.heap.size ≤ bf ∧ WrIs b q bf sz 0 w2 ∧ BfIs bf sz ⟨#[]⟩ w2 ∧ KT [134] B w w2) →
      BsIs B b s sz n { st with begun := true } ((w2.setCell ⟨s, 4, none⟩ (.pointer (some ⟨q, 0, none⟩))).setCell ⟨s, 2, none⟩ (.bool true)) ∧ KT [134] B w ((w2.setCell ⟨s, 4, none⟩ (.pointer (some ⟨q, 0, none⟩))).setCell ⟨s, 2, none⟩ (.bool true)) := by
    rintro q bf w2 ⟨g1, g2, g3, g4, g5, g6⟩
    have k1 : SyIs b s n false st.stopped (.pointer (some ⟨q, 0, none⟩)) (w2.setCell ⟨s, 4, none⟩ (.pointer (some ⟨q, 0, none⟩))) := g1.set4 _
    have k2 := k1.set2 true
    have t1 : KT [134] B w (w2.setCell ⟨s, 4, none⟩ (.pointer (some ⟨q, 0, none⟩))) := g6.setCell (i := 4) g1 (by simp) ls _
    have t2 := t1.setCell (i := 2) k1 (by simp) ls (.bool true)
    refine ⟨⟨t2.out ho (by simp) (by simp), ⟨_, k2, fun _ => ⟨q, bf, rfl, by omega, by omega, ?_, ?_⟩⟩, lb, ls, Nat.le_trans lw t2.below.size⟩, t2⟩
    · show WrIs b q bf sz st.wait.size _
      rw [hwt]
      exact (g4.setSy g1).setSy k1
    · show BfIs bf sz st.wait _
      rw [hwt]
      exact (g5.setSy g1).setSy k1
  have HF := Lib.hid hfin
  clear ho hsy lb ls lw hsy0 hfin hsz hwt hbg hs
  by_cases h0 : n = 0
  · rw [if_pos h0] at hn1
    subst hn1
    subst h0
    go_enter Tryz.func101, Tryz.ntmps101
    go_wp2_with fail
    go_at_call 137
    refine Hw.out.mono ?_
    rintro r w2 ⟨q, bf, rfl, ⟨d0, d1, d2, d3, d4, d5, d6, d7⟩, h2⟩
    have H2 := Lib.hid h2
    clear h2
    go_wp2
    go_end0
    exact ⟨rfl, HF.out _ _ _ H2.out⟩
  · rw [if_neg h0] at hn1
    rw [hn1] at Hw
    clear hn1
    have hb : (n == 0) = false := by simpa using h0
    clear h0
    go_enter Tryz.func101, Tryz.ntmps101
    go_wp2_with fail
    go_at_call 137
    refine Hw.out.mono ?_
    rintro r w2 ⟨q, bf, rfl, ⟨d0, d1, d2, d3, d4, d5, d6, d7⟩, h2⟩
    have H2 := Lib.hid h2
    clear h2
    go_wp2
    go_end0
    exact ⟨rfl, HF.out _ _ _ H2.out⟩
end Go.Proofs.YtchmhdmapknmfaaGreatDoor
