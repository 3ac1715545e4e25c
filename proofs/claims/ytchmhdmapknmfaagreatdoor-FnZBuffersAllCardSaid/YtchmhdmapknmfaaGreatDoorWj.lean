/-
  A BufferedWriteSyncer: Write.
-/
import Derived.Test.YtchmhdmapknmfaaGreatDoorWi
import Derived.Test.YtchmhdmapknmfaaGreatDoorWh
namespace Go.Proofs.YtchmhdmapknmfaaGreatDoor
open Go.RowKit

theorem bufWrite_any {B b q bf sz g : Nat} (cap : Nat) (s : Zb) (t : ByteArray) (w : World) (ho : OutIs B b s.out w) (hw : WrIs b q bf sz s.wait.size w) (hf : BfIs bf sz s.wait w) (hp : PBy g t w) (hB : B ≤ w.heap.size) (hb : B ≤ b) (hq : B ≤ q) (hBf : B ≤ bf) (hsz : sz ≤ 300000) (hsz0 : 0 < sz) (ht0 : 0 < t.size) (ht : t.size ≤ 5000000)
    (h1 : t.size ≤ sz → s.wait.size + t.size ≤ sz) (h2 : sz < t.size → s.wait = ⟨#[]⟩) (hl : s.out.length ≤ 1000) :
    Calls Tryz.prog 105 #[.pointer (some ⟨q, 0, none⟩), .slice (some ⟨g, 0, none⟩) t.size cap] w (BwPost B b q bf sz (s.lay sz t) w t.size) := by
  by_cases h : sz < t.size
  · exact bufWrite_big cap s t w ho hw hf hp hB hb hq hsz hsz0 ht h (h2 h) hl
  · exact bufWrite_fits cap s t w ho hw hf hp hBf hq hsz ht0 (h1 (by omega))

theorem PBy.kt {T : List TypeId} {B g : Nat} {t : ByteArray} {w w' : World} {cs : Array Value} {tt : TypeId} {z : Nat × Nat} (h : PBy g t w) (hg : w.heap[g]? = some (Obj.cells cs tt z)) (k : KT T B w w') (hn : tt ∉ T) : PBy g t w' := by
  have h2 := k.keep _ _ _ _ hg hn
  refine ⟨lt_of_block h2, fun j hj => ?_⟩
  rw [← h.2 j hj, add_lit]
  exact World.cell?_of_block (w := w) (by rw [h2, hg])

/-- The types of the blocks that a syncer turns. -/
def TB : List TypeId := [130, 209, 9, 5, 134]
def BsPost (B b s sz : Nat) (n : Int) (st : Zb) (w0 : World) (v : Value) (r : Ending) (w' : World) : Prop := r = .returned v ∧ BsIs B b s sz n st w' ∧ KT TB B w0 w'

theorem Zb.lay_begun (s : Zb) (sz : Nat) (t : ByteArray) : (s.lay sz t).begun = s.begun := by unfold Zb.lay; split <;> rfl
theorem Zb.lay_stopped (s : Zb) (sz : Nat) (t : ByteArray) : (s.lay sz t).stopped = s.stopped := by unfold Zb.lay; split <;> rfl

/-- Behind the writer's Write. -/
theorem bs_end {B b s sz q bf : Nat} {n : Int} {s1 : Zb} {t : ByteArray} {w0 w2 w3 : World} (hsy : SyIs b s n s1.begun s1.stopped (.pointer (some ⟨q, 0, none⟩)) w2) (h0 : KT TB B w0 w2) (lb : B ≤ b) (ls : B ≤ s) (lq : B ≤ q) (lf : B ≤ bf) (lw : B ≤ w0.heap.size)
    (ho : OutIs B b (s1.lay sz t).out w3) (hw : WrIs b q bf sz (s1.lay sz t).wait.size w3) (hf : BfIs bf sz (s1.lay sz t).wait w3) (hk : KT [130, 209, 9, 5] B w2 w3) : BsIs B b s sz n (s1.lay sz t) w3 ∧ KT TB B w0 w3 := by
  have hb := h0.trans (hk.more (by decide))
  refine ⟨⟨ho, ⟨_, ?_, fun _ => ⟨q, bf, rfl, lq, lf, hw, hf⟩⟩, lb, ls, Nat.le_trans lw hb.below.size⟩, hb⟩
  rw [Zb.lay_begun, Zb.lay_stopped]
  exact hk.keep _ _ _ _ hsy (by decide)

/-- The writer's Write, as the syncer calls it. -/
theorem bs_tail {B b s sz g q bf cap : Nat} {n : Int} (s1 : Zb) (t : ByteArray) (w0 W : World) (hsy : SyIs b s n s1.begun s1.stopped (.pointer (some ⟨q, 0, none⟩)) W) (h0 : KT TB B w0 W) (lb : B ≤ b) (ls : B ≤ s) (lq : B ≤ q) (lf : B ≤ bf) (lw : B ≤ w0.heap.size)
    (ho : OutIs B b s1.out W) (hw : WrIs b q bf sz s1.wait.size W) (hf : BfIs bf sz s1.wait W) (hp : PBy g t W) (hsz : sz ≤ 300000) (hsz0 : 0 < sz) (ht0 : t.size ≠ 0) (ht : t.size ≤ 5000)
    (h1 : t.size ≤ sz → s1.wait.size + t.size ≤ sz) (h2 : sz < t.size → s1.wait = ⟨#[]⟩) (hl : s1.out.length ≤ 1000) :
    Calls Tryz.prog 105 #[.pointer (some ⟨q, 0, none⟩), .slice (some ⟨g, 0, none⟩) t.size cap] W (BsPost B b s sz n (s1.lay sz t) w0 (.tuple #[.int .i64 (t.size : Int), .nilIface])) := by
  refine (bufWrite_any cap s1 t W ho hw hf hp (Nat.le_trans lw h0.below.size) lb lq lf hsz hsz0 (by omega) (by omega) h1 h2 hl).mono ?_
  rintro r w3 ⟨rfl, o1, o2, o3, o4⟩
  exact ⟨rfl, bs_end hsy h0 lb ls lq lf lw o1 o2 o3 o4⟩

set_option maxRecDepth 100000 in
set_option maxHeartbeats 4000000 in
theorem bsWrite_any {B b s sz g cap : Nat} (n : Int) (st : Zb) (t : ByteArray) (w : World) (h : BsIs B b s sz n st w) (hok : st.Ok sz) (hs : sz = zbSize n) (hn : n ≤ 300000) (hp : PBy g t w) (cs : Array Value) (z : Nat × Nat) (hg : w.heap[g]? = some (Obj.cells cs 5 z)) (ht0 : t.size ≠ 0) (ht : t.size ≤ 5000) (hl : st.out.length ≤ 500) :
    Calls Tryz.prog 62 #[.pointer (some ⟨s, 0, none⟩), .slice (some ⟨g, 0, none⟩) t.size cap] w (BsPost B b s sz n (st.write sz t) w (.tuple #[.int .i64 (t.size : Int), .nilIface])) := by
  have hszp : 0 < sz := by rw [hs]; exact zbSize_pos n
  have hszl : sz ≤ 300000 := by rw [hs]; exact zbSize_le hn
  obtain ⟨wv, hsy, -⟩ := h.sy
  obtain ⟨c0, c1, c2, c3, c4, f2, f3, f4⟩ := SyIs.cells hsy
  obtain ⟨bg, hbg⟩ : ∃ bg, bg = st.begun := ⟨_, rfl⟩
  rw [← hbg] at c2
  obtain ⟨s0, hs0⟩ : ∃ s0 : Zb, s0 = { st with begun := true } := ⟨_, rfl⟩
  have hw : st.write sz t = (s0.room sz t).lay sz t := by unfold Zb.write; rw [if_neg ht0, ← hs0]
  have hb0 : s0.begun = true := by rw [hs0]
  have hl0 : s0.out.length ≤ 500 := by rw [hs0]; exact hl
  have hfit0 : s0.wait.size ≤ sz := by rw [hs0]; exact hok.fit
  have Hi := Lib.hid (fun (e : st.begun = false) => initialize_any n st w h hs hn e (hok.none e).1)
  have HA := Lib.hid (And.intro h (And.intro hp (And.intro hg (And.intro hw (And.intro hb0 (And.intro hl0 (And.intro hs0 (And.intro hfit0 (And.intro hszp (And.intro hszl (And.intro hbg (And.intro ht0 ht))))))))))))
  have hsI : (sz : Int) ≤ 300000 := by omega
  have htI : (t.size : Int) ≤ 5000 := by omega
  clear h hp hg hw hb0 hl0 hs0 hok hs hn hsy hfit0 hszp hszl hbg ht0 ht hl
  go_enter Tryz.func62, Tryz.ntmps62
  go_upto_if 11 with fail
  go_cut [] from 7 (fun wc => BsIs B b s sz n s0 wc ∧ PBy g t wc ∧ wc.heap[g]? = some (Obj.cells cs 5 z) ∧ KT TB B w wc)
  case first =>
    obtain ⟨h, hp, hg, -, -, -, hs0, -, -, -, hbg, -⟩ := HA.out
    cases bg with
    | true =>
      have e : s0 = st := by
        rw [hs0]
        cases st
        simp only at hbg
        subst hbg
        rfl
      have HX := Lib.hid (show BsIs B b s sz n s0 w ∧ PBy g t w ∧ w.heap[g]? = some (Obj.cells cs 5 z) ∧ KT TB B w w from ⟨by rw [e]; exact h, hp, hg, KT.refl _ _ _⟩)
      clear h hp hg hs0 hbg e
      go_wp2_with fail
      go_meet
      exact HX.out
    | false =>
      have Hj := Lib.hid (Hi.out hbg.symm)
      have HX := Lib.hid (And.intro hp (And.intro hg hs0))
      clear h hp hg hs0 hbg
      go_wp2_with fail
      go_at_call 101
      refine Hj.out.mono ?_
      rintro r w2 ⟨rfl, h2, k2⟩
      have H2 := Lib.hid (And.intro h2 k2)
      clear h2 k2
      go_wp2_with fail
      go_meet
      exact ⟨by rw [HX.out.2.2]; exact H2.out.1, HX.out.1.kt HX.out.2.1 H2.out.2 (by decide), H2.out.2.keep _ _ _ _ HX.out.2.1 (by decide), H2.out.2.more (by decide)⟩
  case rest =>
    obtain ⟨hb, hp, hg, hB⟩ := hcut
    obtain ⟨-, -, -, hw, hb0, hl0, -, hfit, hszp, hszl, -, ht0, ht⟩ := HA.out
    obtain ⟨wv1, hsy, hin⟩ := hb.sy
    obtain ⟨q, bf, rfl, lq, lf, hW, hF⟩ := hin hb0
    obtain ⟨d0, d1, d2, d3, d4, -⟩ := SyIs.cells hsy
    obtain ⟨m0, hm0⟩ : ∃ m0, m0 = s0.wait.size := ⟨_, rfl⟩
    have hW1 := hW
    rw [← hm0] at hW1 hfit
    have Ha := Lib.hid (fun (k : Nat) => available_any (wc.drewN k) hW1 hszl hfit)
    have Hb := Lib.hid (fun (k : Nat) => buffered_cnt (wc.drewN k) hW1)
    have hr1 := Zb.room_fits s0 sz t
    have hr2 := Zb.room_big s0 sz t
    have hbr : (s0.room sz t).begun = s0.begun := Zb.room_begun s0 sz t
    have hstr := Zb.room_stopped s0 sz t
    have lw : B ≤ w.heap.size := HA.out.1.lw
    by_cases hA : (sz : Int) - (m0 : Int) < (t.size : Int)
    · by_cases hm : m0 = 0
      · have e : s0.room sz t = s0 := by
          unfold Zb.room
          rw [← hm0, if_pos hA]
          unfold Zb.flush
          rw [if_pos (by rw [← hm0]; exact hm)]
        rw [e] at hr1 hr2 hw
        have Hz := Lib.hid (fun (k : Nat) => bs_tail (g := g) (cap := cap) s0 t w (wc.drewN k) hsy (hB.drewN k) hb.lb hb.ls lq lf lw hb.out hW hF hp hszl hszp ht0 ht hr1 hr2 (by omega))
        subst hm
        rw [show (((0 : Nat) : Int)) = 0 from rfl] at Ha Hb hA
        have hA2 : (sz : Int) < (t.size : Int) := by omega
        simp only [Int.sub_zero] at Ha
        have HW := Lib.hid hw
        clear hb hp hg hB hw hb0 hl0 hfit hszp hszl ht0 ht hsy hW hF hm0 hW1 hr1 hr2 hbr hstr lw e hA
        go_wp2_with fail
        go_at_call 102
        refine (Ha.out 0).mono ?_
        rintro r w' ⟨rfl, k, rfl⟩
        go_wp2_with fail
        go_at_call 103
        refine (Hb.out k).mono ?_
        rintro r w' ⟨rfl, rfl⟩
        go_wp2_with fail
        go_at_call 105
        refine (Hz.out k).mono ?_
        rintro r w3 ⟨rfl, h3, h4⟩
        have H3 := Lib.hid (And.intro h3 h4)
        clear h3 h4
        go_wp2
        go_ret2
        refine ⟨rfl, ?_⟩
        rw [HW.out]
        exact H3.out
      · have e : s0.room sz t = s0.flush := by
          unfold Zb.room
          rw [← hm0, if_pos hA]
        rw [e] at hr1 hr2 hw hbr hstr
        have Hf := Lib.hid (fun (k : Nat) => bufFlush_any s0 (wc.drewN k) hb.out hW hF hb.lw hb.lb lq (by omega) hszl)
        have hfl := Zb.flush_len s0
        have hfw := Zb.flush_wait s0
        have HT := Lib.hid (fun (k : Nat) (w2 : World) (o1 : OutIs B b s0.flush.out w2) (o2 : WrIs b q bf sz 0 w2) (o3 : KT [130, 209, 9] B (wc.drewN k) w2) =>
          have hs2 : SyIs b s n s0.flush.begun s0.flush.stopped (.pointer (some ⟨q, 0, none⟩)) w2 := by
            rw [hbr, hstr]
            exact o3.keep _ _ _ _ hsy (by decide)
          have hF2 : BfIs bf sz s0.flush.wait w2 := by
            obtain ⟨cur, f1, f2, f3, f4⟩ := hF
            rw [hfw]
            exact ⟨cur, o3.keep _ _ _ _ f1 (by decide), f2, Nat.zero_le _, fun j hj => absurd hj (by simp)⟩
          have hW2 : WrIs b q bf sz s0.flush.wait.size w2 := by rw [hfw]; exact o2
          And.intro hs2.cells (bs_tail (g := g) (cap := cap) s0.flush t w w2 hs2 ((hB.drewN k).trans (o3.more (by decide))) hb.lb hb.ls lq lf lw o1 hW2 hF2 (PBy.kt (w := wc.drewN k) hp hg o3 (by decide)) hszl hszp ht0 ht hr1 hr2 (by omega)))
        have hm1 : (0 : Int) < (m0 : Int) := by omega
        have hm2 : (m0 : Int) ≤ (sz : Int) := by omega
        have HW := Lib.hid hw
        clear hb hp hg hB hw hb0 hl0 hfit hszp hszl ht0 ht hsy hW hF hm0 hW1 hr1 hr2 hbr hstr lw e hm hfl hfw
        go_wp2_with fail
        go_at_call 102
        refine (Ha.out 0).mono ?_
        rintro r w' ⟨rfl, k, rfl⟩
        go_wp2_with fail
        go_at_call 103
        refine (Hb.out k).mono ?_
        rintro r w' ⟨rfl, rfl⟩
        go_wp2_with fail
        go_at_call 104
        refine (Hf.out k).mono ?_
        rintro r w2 ⟨rfl, o1, o2, o3⟩
        obtain ⟨⟨x0, x1, x2, x3, x4, -⟩, hz⟩ := HT.out k w2 o1 o2 o3
        have Hz := Lib.hid hz
        clear o1 o2 o3 hz
        go_wp2_with fail
        go_at_call 105
        refine Hz.out.mono ?_
        rintro r w3 ⟨rfl, h3, h4⟩
        have H3 := Lib.hid (And.intro h3 h4)
        clear h3 h4
        go_wp2
        go_ret2
        refine ⟨rfl, ?_⟩
        rw [HW.out]
        exact H3.out
    · have e : s0.room sz t = s0 := by
        unfold Zb.room
        rw [← hm0, if_neg hA]
      rw [e] at hr1 hr2 hw
      have Hz := Lib.hid (fun (k : Nat) => bs_tail (g := g) (cap := cap) s0 t w (wc.drewN k) hsy (hB.drewN k) hb.lb hb.ls lq lf lw hb.out hW hF hp hszl hszp ht0 ht hr1 hr2 (by omega))
      have hA2 : (t.size : Int) ≤ (sz : Int) - (m0 : Int) := by omega
      have HW := Lib.hid hw
      clear hb hp hg hB hw hb0 hl0 hfit hszp hszl ht0 ht hsy hW hF hm0 hW1 hr1 hr2 hbr hstr lw e hA
      go_wp2_with fail
      go_at_call 102
      refine (Ha.out 0).mono ?_
      rintro r w' ⟨rfl, k, rfl⟩
      go_wp2_with fail
      go_at_call 105
      refine (Hz.out k).mono ?_
      rintro r w3 ⟨rfl, h3, h4⟩
      have H3 := Lib.hid (And.intro h3 h4)
      clear h3 h4
      go_wp2
      go_ret2
      refine ⟨rfl, ?_⟩
      rw [HW.out]
      exact H3.out
end Go.Proofs.YtchmhdmapknmfaaGreatDoor
