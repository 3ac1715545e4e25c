/-
  bufio.Writer: Write, where what is handed over fits, or nothing waits.
-/
import Derived.Test.YtchmhdmapknmfaaGreatDoorWf
import Derived.Laws.CopyOwn
namespace Go.Proofs.YtchmhdmapknmfaaGreatDoor
open Go.RowKit

theorem Tryz.one5 : (Tryz.prog.info? 5).map (·.size) = some 1 := by kernel_rfl

/-- copy as one step of a region that draws: the world behind it by an equation. -/
theorem step_copy_at {P : Program} {ops : Array Oper} {o : Oper} {a : Act} {w : World} {K : Act → World → Prop} {Q : Exit → Act → World → Prop} {E : Prop} (hgd : o.guard = none) (d s : Operand) (dT sT : TypeId)
    (ho : o.op = .call { callee := .builtin .copy, args := #[d, s], argTypes := #[dT, sT] }) (elem : TypeId) (hu : P.underlying dT = some (.slice elem)) (hsz : (P.info? elem).map (·.size) = some 1)
    (dLen dCap sLen sCap g off : Nat) (ad : Addr) (hd : a.eval d = .slice (some ⟨g, off, none⟩) dLen dCap) (hs : a.eval s = .slice (some ad) sLen sCap)
    (cur : List Value) (t : TypeId) (hg : w.heap[g]? = some (.cells cur.toArray t (0, 0))) (cs : List Value) (hn : cs.length = Nat.min sLen dLen)
    (hsrc : ∀ j v, cs[j]? = some v → w.cell? (ad.add j) = some v)
    (hfit : off + cs.length ≤ cur.length) (h1 : ∀ v ∈ cs, v.oneCell' = true)
    (h : ∀ w', w' = w.setRow g (splice cur off cs).toArray → K (a.put o.dst (goInt cs.length)) w') :
    if Region.wanted o (yielded ops a.tmps) = true then Oper.wp P o a w K Q else E := by
  have hw : Region.wanted o (yielded ops a.tmps) = true := by simp [Region.wanted, hgd]
  rw [if_pos hw]
  have hrun := run_copy_row (P := P) w dT sT o.type elem g off dLen dCap ad sLen sCap cur.toArray t cs hu hsz hg hn hsrc (by simpa using hfit) h1
  unfold Oper.wp
  simp [execOp, ho, resolve, invoke, builtin, hd, hs, hrun, Result.andThen]
  exact h _ (by simp [splice])

theorem step_copy_none {P : Program} {ops : Array Oper} {o : Oper} {a : Act} {w : World} {K : Act → World → Prop} {Q : Exit → Act → World → Prop} {E : Prop} (hgd : o.guard = none) (d s : Operand) (dT sT : TypeId)
    (ho : o.op = .call { callee := .builtin .copy, args := #[d, s], argTypes := #[dT, sT] }) (elem : TypeId) (hu : P.underlying dT = some (.slice elem)) (hsz : (P.info? elem).map (·.size) = some 1)
    (dp sp : Option Addr) (dLen dCap sLen sCap : Nat) (hd : a.eval d = .slice dp dLen dCap) (hs : a.eval s = .slice sp sLen sCap) (hn : Nat.min sLen dLen = 0)
    (h : K (a.put o.dst (goInt 0)) w) :
    if Region.wanted o (yielded ops a.tmps) = true then Oper.wp P o a w K Q else E := by
  have hw : Region.wanted o (yielded ops a.tmps) = true := by simp [Region.wanted, hgd]
  rw [if_pos hw]
  have hrun := run_copy_none (P := P) w dT sT o.type elem dp sp dLen dCap sLen sCap hu hsz hn
  unfold Oper.wp
  simp [execOp, ho, resolve, invoke, builtin, hd, hs, hrun, Result.andThen]
  exact h

/-- The bytes t, laid behind those that wait. -/
theorem BfIs.lay {bf sz : Nat} {a t : ByteArray} {w : World} (h : BfIs bf sz a w) (hfit : a.size + t.size ≤ sz) : ∃ cur : List Value, w.heap[bf]? = some (.cells cur.toArray 5 (0, 0)) ∧ cur.length = sz ∧
    ∀ w' : World, w'.heap[bf]? = some (.cells (splice cur a.size (t.data.toList.map fun x => .int .u8 (x.toNat : Int))).toArray 5 (0, 0)) → BfIs bf sz (a ++ t) w' := by
  obtain ⟨cur, h1, h2, h3, h4⟩ := h
  have ea : a.data.toList.length = a.size := by show _ = a.data.size; simp
  have et : t.data.toList.length = t.size := by show _ = t.data.size; simp
  refine ⟨cur, h1, h2, fun w' h' => ⟨_, h', ?_, by rw [ba_size_append]; exact hfit, fun j hj => ?_⟩⟩
  · rw [length_splice _ _ _ (by rw [List.length_map, et, h2]; exact hfit)]
    exact h2
  · have ed : (a ++ t).data.toList = a.data.toList ++ t.data.toList := by rw [ByteArray.data_append, Array.toList_append]
    rw [ed, List.length_append, ea, et] at hj
    have e : ((a ++ t).data.toList[j]'(by rw [ed, List.length_append, ea, et]; exact hj)) = (a.data.toList ++ t.data.toList)[j]'(by rw [List.length_append, ea, et]; exact hj) := by congr 1
    rw [e]
    unfold splice
    by_cases hja : j < a.size
    · rw [List.getElem?_append_left (by rw [List.length_take]; omega), List.getElem?_take_of_lt hja, List.getElem_append_left (by omega)]
      exact h4 j (by omega)
    · rw [List.getElem?_append_right (by rw [List.length_take]; omega), List.length_take, show min a.size cur.length = a.size by omega, List.getElem?_append_left (by rw [List.length_map]; omega), List.getElem?_map, List.getElem?_eq_getElem (by omega), List.getElem_append_right (by omega)]
      simp only [Option.map_some, ea]

theorem KT.undrewN {T : List TypeId} {B m : Nat} {w w' : World} (h : KT T B (w.drewN m) w') : KT T B w w' := ⟨(zb_drewN (Below.refl B w) m).trans h.below, h.keep⟩

/-- The row's world. -/
theorem lay_world {B b q bf sz : Nat} {k0 n : Nat} {s : Zb} {w W : World} {cur cs : List Value} (ho : OutIs B b s.out w) (hq : WrIs b q bf sz n w) (hc : w.heap[bf]? = some (.cells cur.toArray 5 (0, 0))) (hW : W = (w.drewN k0).setRow bf (splice cur n cs).toArray) (hB : B ≤ bf) :
    W.heap[bf]? = some (.cells (splice cur n cs).toArray 5 (0, 0)) ∧ WrIs b q bf sz n W ∧ OutIs B b s.out W ∧ KT [130, 209, 9, 5] B w W := by
  subst hW
  have hne : ∀ (k : Nat) (c : Array Value) (tt : Nat) (z : Nat × Nat), w.heap[k]? = some (Obj.cells c tt z) → tt ≠ 5 → k ≠ bf := by
    intro k c tt z e n e2
    rw [e2, hc] at e
    simp at e
    exact n e.2.1.symm
  refine ⟨setRow_heap (w.drewN k0) bf _ _ 5 _ hc, ?_, ?_, ?_⟩
  · unfold WrIs at hq ⊢
    rw [setRow_other _ _ _ _ (hne q _ _ _ hq (by decide))]
    exact hq
  · obtain ⟨vo, h1, h2⟩ := ho
    refine ⟨vo, ?_, row_same h2 fun g hg => ?_⟩
    · rw [setRow_other _ _ _ _ (hne b _ _ _ h1 (by decide))]
      exact h1
    · obtain ⟨c, hcc⟩ := row_type h2 hg
      rw [setRow_other _ _ _ _ (hne g _ _ _ hcc (by decide))]
      rfl
  · refine ⟨⟨rfl, rfl, rfl, by simp [World.setRow], fun k hk => ?_⟩, fun k c tt z e n => ?_⟩
    · rw [setRow_other _ _ _ _ (by omega)]
      rfl
    · rw [setRow_other _ _ _ _ (hne k c tt z e (fun h => n (by rw [h]; simp)))]
      exact e

def BwPost (B b q bf sz : Nat) (s : Zb) (w0 : World) (n : Int) (r : Ending) (w' : World) : Prop := r = .returned (.tuple #[.int .i64 n, .nilIface]) ∧ OutIs B b s.out w' ∧ WrIs b q bf sz s.wait.size w' ∧ BfIs bf sz s.wait w' ∧ KT [130, 209, 9, 5] B w0 w'

set_option maxRecDepth 100000 in
set_option maxHeartbeats 4000000 in
/-- Write of bytes that fit. -/
theorem bufWrite_fits {B b q bf sz g : Nat} (cap : Nat) (s : Zb) (t : ByteArray) (w : World) (ho : OutIs B b s.out w) (hw : WrIs b q bf sz s.wait.size w) (hf : BfIs bf sz s.wait w) (hp : PBy g t w) (hBf : B ≤ bf) (hq : B ≤ q) (hsz : sz ≤ 300000) (ht : 0 < t.size) (hfit : s.wait.size + t.size ≤ sz) :
    Calls Tryz.prog 105 #[.pointer (some ⟨q, 0, none⟩), .slice (some ⟨g, 0, none⟩) t.size cap] w (BwPost B b q bf sz (s.lay sz t) w t.size) := by
  obtain ⟨cur, hc1, hc2, hc3⟩ := hf.lay hfit
  have Ha := Lib.hid (available_any w hw hsz (by omega))
  obtain ⟨c0, c1, c2, c3, f0, f2⟩ := hw.cells
  obtain ⟨n, hn⟩ : ∃ n, n = s.wait.size := ⟨_, rfl⟩
  rw [← hn] at c2 Ha hfit
  have hsI : (sz : Int) ≤ 300000 := by omega
  have hn1 : (n : Int) < (sz : Int) := by omega
  have hn2 : (t.size : Int) ≤ (sz : Int) - (n : Int) := by omega
  have ht1 : (0 : Int) < (t.size : Int) := by omega
  have hnle : n ≤ sz := by omega
  have hnne : ¬ sz = n := by omega
  obtain ⟨cs, hcs⟩ : ∃ cs : List Value, cs = t.data.toList.map fun x => .int .u8 (x.toNat : Int) := ⟨_, rfl⟩
  rw [← hcs] at hc3
  have hcl : cs.length = t.size := by rw [hcs, List.length_map]; show _ = t.data.size; simp
  have hsrc : ∀ j v, cs[j]? = some v → w.cell? ((⟨g, 0, none⟩ : Addr).add j) = some v := by
    intro j v hj
    have hjl := (List.getElem?_eq_some_iff.1 hj).1
    rw [hcs, List.length_map] at hjl
    rw [hp.2 j hjl, ← hj, hcs, List.getElem?_map, List.getElem?_eq_getElem hjl]
    rfl
  have h1c : ∀ v ∈ cs, v.oneCell' = true := by
    intro v hv
    rw [hcs, List.mem_map] at hv
    obtain ⟨x, _, rfl⟩ := hv
    rfl
  have HA := Lib.hid (And.intro ho (And.intro hw (And.intro hc1 (And.intro hBf (And.intro hq (And.intro hc3 (And.intro hn (And.intro (show ¬ sz < t.size by omega) hfit))))))))
  have HM := Lib.hid (show cs.length = Nat.min t.size (sz - n) ∧ n + cs.length ≤ cur.length ∧ WrIs b q bf sz n w from ⟨by rw [hcl]; exact (Nat.min_eq_left (by omega)).symm, by omega, by rw [hn]; exact hw⟩)
  have HC := Lib.hid (And.intro hcl (And.intro hsrc (And.intro h1c hc2)))
  clear ho hw hf hp hBf hq hsz ht hc1 hc3 hn hcl hsrc h1c hc2 hfit hcs
  go_enter Tryz.func105, Tryz.ntmps105
  go_wp2_with fail
  go_loopw [1, 4, 6] (fun v1 v4 _ wr => v1 = .slice (some ⟨g, 0, none⟩) t.size cap ∧ v4 = .int .i64 0 ∧ wr = w) (fun _ _ _ _ => 0)
  case atStart => exact ⟨rfl, rfl, rfl⟩
  case round =>
    obtain ⟨rfl, rfl, rfl⟩ := hrel
    go_wp2_with fail
    go_at_call 102
    refine Ha.out.mono ?_
    rintro r w' ⟨rfl, m, rfl⟩
    go_wp2_with fail
    go_region_law (refine step_copy_at rfl (.tmp 80) (.tmp 81) 101 101 rfl 5 Tryz.underlying101 Tryz.one5 (sz - n) (sz - n) t.size cap bf n ⟨g, 0, none⟩ (by simp [Act.eval, Act.put]) (by simp [Act.eval, Act.put]) cur 5 HA.out.2.2.1 cs HM.out.1 HC.out.2.1 HM.out.2.1 HC.out.2.2.1 ?_; intro W hW; rw [HC.out.1]; have hL := lay_world HA.out.1 HM.out.2.2 HA.out.2.2.1 hW HA.out.2.2.2.1; clear hW; have d := hL.2.1.cells; have HL := Lib.hid hL; clear hL; obtain ⟨d0, d1, d2, d3, d4, d5⟩ := d)
    all_goals
      go_wp2_with fail
      go_ret2
      obtain ⟨l1, l2, l3, l4⟩ := HL.out
      have hlay : s.lay sz t = { s with wait := s.wait ++ t } := by unfold Zb.lay; rw [if_neg HA.out.2.2.2.2.2.2.2.1]
      have hN := l2.set (n + t.size)
      have e : ((n + t.size : Nat) : Int) = (n : Int) + (t.size : Int) := by omega
      rw [e] at hN
      have hbf : q ≠ bf := by
        intro e2
        have := l2
        unfold WrIs at this
        rw [e2, l1] at this
        simp at this
      rw [hlay]
      refine ⟨rfl, l3.setOther l2 (by decide) (by decide) _, ?_, HA.out.2.2.2.2.2.1 _ ?_, l4.setCell l2 (by decide) HA.out.2.2.2.2.1 _⟩
      · have e3 : (s.wait ++ t).size = n + t.size := by rw [ba_size_append, HA.out.2.2.2.2.2.2.1]
        show WrIs b q bf sz (s.wait ++ t).size _
        rw [e3]
        exact hN
      · rw [Below.heap_setCell _ _ _ _ (show bf ≠ q from hbf.symm), ← HA.out.2.2.2.2.2.2.1]
        exact l1
end Go.Proofs.YtchmhdmapknmfaaGreatDoor
