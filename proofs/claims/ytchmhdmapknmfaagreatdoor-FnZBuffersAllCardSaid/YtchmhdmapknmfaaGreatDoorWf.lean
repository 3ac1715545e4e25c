/-
  bufio.Writer: Available, Buffered, Flush.
-/
import Derived.Test.YtchmhdmapknmfaaGreatDoorWe
import Derived.Deep.RegionHeld3
namespace Go.Proofs.YtchmhdmapknmfaaGreatDoor
open Go.RowKit

/-- Block q is a writer over block b, its bytes in block bf, n of them taken. -/
def WrIs (b q bf sz n : Nat) (w : World) : Prop :=
  w.heap[q]? = some (.cells #[.nilIface, .slice (some ⟨bf, 0, none⟩) sz sz, .int .i64 (n : Int), .iface 128 (.pointer (some ⟨b, 0, none⟩))] 209 (0, 0))
/-- The bytes t lie at the head of block bf. -/
def BfIs (bf sz : Nat) (t : ByteArray) (w : World) : Prop := ∃ cur : List Value, w.heap[bf]? = some (.cells cur.toArray 5 (0, 0)) ∧ cur.length = sz ∧ t.size ≤ sz ∧ ∀ j (h : j < t.data.toList.length), cur[j]? = some (.int .u8 (t.data.toList[j].toNat : Int))

theorem WrIs.cells {b q bf sz n : Nat} {w : World} (h : WrIs b q bf sz n w) : w.cell? ⟨q, 0, none⟩ = some .nilIface ∧ w.cell? ⟨q, 1, none⟩ = some (.slice (some ⟨bf, 0, none⟩) sz sz) ∧ w.cell? ⟨q, 2, none⟩ = some (.int .i64 (n : Int)) ∧
    w.cell? ⟨q, 3, none⟩ = some (.iface 128 (.pointer (some ⟨b, 0, none⟩))) ∧ w.frozen? ⟨q, 0, none⟩ = false ∧ w.frozen? ⟨q, 2, none⟩ = false := by
  unfold WrIs at h
  simp [World.cell?, World.frozen?, h]
theorem WrIs.set {b q bf sz n : Nat} {w : World} (h : WrIs b q bf sz n w) (m : Nat) : WrIs b q bf sz m (w.setCell ⟨q, 2, none⟩ (.int .i64 (m : Int))) :=
  heap_set (cs := [.nilIface, .slice (some ⟨bf, 0, none⟩) sz sz, .int .i64 (n : Int), .iface 128 (.pointer (some ⟨b, 0, none⟩))]) h 2 _
theorem WrIs.setErr {b q bf sz n : Nat} {w : World} (h : WrIs b q bf sz n w) : WrIs b q bf sz n (w.setCell ⟨q, 0, none⟩ .nilIface) :=
  heap_set (cs := [.nilIface, .slice (some ⟨bf, 0, none⟩) sz sz, .int .i64 (n : Int), .iface 128 (.pointer (some ⟨b, 0, none⟩))]) h 0 _
theorem BfIs.by {bf sz : Nat} {t : ByteArray} {w : World} (h : BfIs bf sz t w) : PBy bf t w := by
  obtain ⟨cur, h1, h2, h3, h4⟩ := h
  refine ⟨lt_of_block h1, fun j hj => ?_⟩
  rw [add_lit, cell_of_row _ _ j _ _ _ h1]
  have := h4 j hj
  simpa using this
theorem KT.setCell {T : List TypeId} {B q i : Nat} {w w' : World} {cs : Array Value} {t : TypeId} {z : Nat × Nat} (h : KT T B w w') (hq : w'.heap[q]? = some (Obj.cells cs t z)) (ht : t ∈ T) (hB : B ≤ q) (v : Value) : KT T B w (w'.setCell ⟨q, i, none⟩ v) := by
  refine ⟨h.below.trans ⟨rfl, rfl, rfl, by simp [World.setCell], fun k hk => Below.heap_setCell _ _ _ _ (by show k ≠ q; omega)⟩, fun k cs' t' z' e n => ?_⟩
  have h2 := h.keep k cs' t' z' e n
  have hne : k ≠ q := by
    intro e2
    rw [e2, hq] at h2
    simp at h2
    exact n (by rw [← h2.2.1]; exact ht)
  rw [Below.heap_setCell _ _ _ _ (by show k ≠ q; exact hne)]
  exact h2
theorem OutIs.setOther {B b q i : Nat} {out : List ByteArray} {w : World} {cs : Array Value} {t : TypeId} {z : Nat × Nat} (h : OutIs B b out w) (hq : w.heap[q]? = some (Obj.cells cs t z)) (h1 : t ≠ 130) (h2 : t ≠ 9) (v : Value) : OutIs B b out (w.setCell ⟨q, i, none⟩ v) := by
  obtain ⟨vo, e1, e2⟩ := h
  refine ⟨vo, ?_, row_same e2 fun g hg => Below.heap_setCell _ _ _ _ ?_⟩
  · rw [Below.heap_setCell _ _ _ _ (show b ≠ q from fun e => by rw [← e, e1] at hq; simp at hq; exact h1 hq.2.1.symm)]
    exact e1
  · show g ≠ q
    intro e
    obtain ⟨c, hc⟩ := row_type e2 hg
    rw [e, hq] at hc
    simp at hc
    exact h2 hc.2.1

set_option maxRecDepth 100000 in
set_option maxHeartbeats 1000000 in
theorem available_any {b q bf sz n : Nat} (w : World) (h : WrIs b q bf sz n w) (hs : sz ≤ 300000) (hn : n ≤ sz) : Calls Tryz.prog 102 #[.pointer (some ⟨q, 0, none⟩)] w fun r w' => r = .returned (.int .i64 ((sz : Int) - (n : Int))) ∧ ∃ m, w' = w.drewN m := by
  obtain ⟨c0, c1, c2, c3, f0, f2⟩ := h.cells
  have h1 : (sz : Int) ≤ 300000 := by omega
  have h2 : (n : Int) ≤ (sz : Int) := by omega
  clear h hs hn
  go_enter Tryz.func102, Tryz.ntmps102
  go_wp2_with fail
  go_quiet (fail)
  go_wp2
  go_ret
  exact ⟨rfl, _, rfl⟩

set_option maxRecDepth 100000 in
set_option maxHeartbeats 1000000 in
theorem buffered_cnt {b q bf sz n : Nat} (w : World) (h : WrIs b q bf sz n w) : Calls Tryz.prog 103 #[.pointer (some ⟨q, 0, none⟩)] w fun r w' => r = .returned (.int .i64 (n : Int)) ∧ w = w' := by
  obtain ⟨c0, c1, c2, c3, f0, f2⟩ := h.cells
  clear h
  go_enter Tryz.func103, Tryz.ntmps103
  go_wp2
  go_ret
  exact ⟨rfl, rfl⟩

theorem meth_belowWrite (a : Addr) (w : World) : (method 524 128 (.pointer (some a)) "Write").run Tryz.prog w = .ok (224, .pointer (some a)) w := by kernel_rfl

/-- What flushing leaves. -/
def FlPost (B b q bf sz : Nat) (s : Zb) (w0 : World) (r : Ending) (w' : World) : Prop := r = .returned .nilIface ∧ OutIs B b s.flush.out w' ∧ WrIs b q bf sz 0 w' ∧ KT [130, 209, 9] B w0 w'

set_option maxRecDepth 100000 in
set_option maxHeartbeats 2000000 in
theorem bufFlush_any {B b q bf sz : Nat} (s : Zb) (w : World) (ho : OutIs B b s.out w) (hw : WrIs b q bf sz s.wait.size w) (hf : BfIs bf sz s.wait w) (hB : B ≤ w.heap.size) (hb : B ≤ b) (hq : B ≤ q) (hl : s.out.length ≤ 1000) (hsz : sz ≤ 300000) :
    Calls Tryz.prog 104 #[.pointer (some ⟨q, 0, none⟩)] w (FlPost B b q bf sz s w) := by
  obtain ⟨c0, c1, c2, c3, f0, f2⟩ := hw.cells
  obtain ⟨n, hn⟩ : ∃ n, n = s.wait.size := ⟨_, rfl⟩
  rw [← hn] at c2 hw
  have hnsz : n ≤ sz := by
    obtain ⟨cur, _, _, h3, _⟩ := hf
    omega
  by_cases h0 : n = 0
  · subst h0
    have e : s.flush = s := by unfold Zb.flush; rw [if_pos hn.symm]
    have HF := Lib.hid (show OutIs B b s.flush.out w ∧ WrIs b q bf sz 0 w ∧ KT [130, 209, 9] B w w from ⟨by rw [e]; exact ho, hw, KT.refl _ _ _⟩)
    clear ho hw hf hB hb hq hl hsz hn e
    go_enter Tryz.func104, Tryz.ntmps104
    go_wp2
    go_ret
    exact ⟨rfl, HF.out⟩
  · have hnp : (n : Int) ≠ 0 := by omega
    have hb0 : ((n : Int) == 0) = false := by simpa using hnp
    have hn1 : (n : Int) ≤ (sz : Int) := by omega
    have hsI : (sz : Int) ≤ 300000 := by omega
    have hnn : (0 : Int) < (n : Int) := by omega
    have Hc := Lib.hid ((belowWrite_any sz s.out s.wait w.drew ho hf.by hB hl hb).mono
      (fun r w2 (h : r = .returned (.tuple #[.int .i64 (s.wait.size : Int), .nilIface]) ∧ OutIs B b (s.out ++ [s.wait]) w2 ∧ KT [130, 9] B w.drew w2) =>
        (⟨h.1, h.2.1, h.2.2, WrIs.cells (show WrIs b q bf sz n w2 from h.2.2.keep _ _ _ _ hw (by decide)), h.2.2.keep _ _ _ _ hw (by decide)⟩ :
        r = .returned (.tuple #[.int .i64 (s.wait.size : Int), .nilIface]) ∧ OutIs B b (s.out ++ [s.wait]) w2 ∧ KT [130, 9] B w.drew w2 ∧ (w2.cell? ⟨q, 0, none⟩ = some .nilIface ∧ w2.cell? ⟨q, 1, none⟩ = some (.slice (some ⟨bf, 0, none⟩) sz sz) ∧ w2.cell? ⟨q, 2, none⟩ = some (.int .i64 (n : Int)) ∧
    w2.cell? ⟨q, 3, none⟩ = some (.iface 128 (.pointer (some ⟨b, 0, none⟩))) ∧ w2.frozen? ⟨q, 0, none⟩ = false ∧ w2.frozen? ⟨q, 2, none⟩ = false) ∧ WrIs b q bf sz n w2)))
    rw [← hn] at Hc
    have hm := fun w => meth_belowWrite ⟨b, 0, none⟩ w
    have HA := Lib.hid (And.intro hn (And.intro hq h0))
    clear ho hw hf hB hb hq hl hsz hn h0 hnsz
    go_enter Tryz.func104, Tryz.ntmps104
    go_wp2_with fail
    go_region_held3 (fun w' => w'.cell? ⟨q, 0, none⟩ = some .nilIface ∧ w'.cell? ⟨q, 1, none⟩ = some (.slice (some ⟨bf, 0, none⟩) sz sz) ∧ w'.cell? ⟨q, 2, none⟩ = some (.int .i64 (n : Int)) ∧ w'.cell? ⟨q, 3, none⟩ = some (.iface 128 (.pointer (some ⟨b, 0, none⟩)))) (go_keep)
      ((go_at_call 224; refine Hc.out.mono ?_; rintro r w2 ⟨rfl, hO, hK, ⟨q0, q1, q2, q3, q4, q5⟩, hW⟩))
    all_goals
      have HF := Lib.hid (And.intro hO (And.intro hK hW))
      clear hO hK hW
      go_wp2_with fail
      go_ret
      have hN := (HF.out.2.2).set 0
      refine ⟨rfl, ?_, hN, ?_⟩
      · unfold Zb.flush
        rw [if_neg (by rw [← HA.out.1]; exact HA.out.2.2)]
        exact HF.out.1.setOther HF.out.2.2 (by decide) (by decide) _
      · exact (HF.out.2.1.undrew.more (by decide)).setCell HF.out.2.2 (by decide) HA.out.2.1 _
end Go.Proofs.YtchmhdmapknmfaaGreatDoor
