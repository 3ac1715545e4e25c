/-
  A BufferedWriteSyncer: Sync, Stop.
-/
import Derived.Test.YtchmhdmapknmfaaGreatDoorWj
namespace Go.Proofs.YtchmhdmapknmfaaGreatDoor
open Go.RowKit

theorem meth_belowSync (a : Addr) (w : World) : (method 524 128 (.pointer (some a)) "Sync").run Tryz.prog w = .ok (223, .pointer (some a)) w := by kernel_rfl

set_option maxRecDepth 100000 in
set_option maxHeartbeats 400000 in
theorem belowSync_any (v : Value) (w : World) : Calls Tryz.prog 223 #[v] w fun r w' => r = .returned .nilIface ∧ w = w' := by
  go_enter Tryz.func223, Tryz.ntmps223
  go_wp2
  go_ret
  exact ⟨rfl, rfl⟩

set_option maxRecDepth 100000 in
set_option maxHeartbeats 400000 in
theorem first_nil (w : World) : Calls Tryz.prog 106 #[.nilIface, .nilIface] w fun r w' => r = .returned .nilIface ∧ w = w' := by
  go_enter Tryz.func106, Tryz.ntmps106
  go_wp2
  go_ret
  exact ⟨rfl, rfl⟩

set_option maxRecDepth 100000 in
set_option maxHeartbeats 2000000 in
theorem bsSync_any {B b s sz : Nat} (n : Int) (st : Zb) (w : World) (h : BsIs B b s sz n st w) (hok : st.Ok sz) (hs : sz = zbSize n) (hn : n ≤ 300000) (hl : st.out.length ≤ 500) :
    Calls Tryz.prog 63 #[.pointer (some ⟨s, 0, none⟩)] w (BsPost B b s sz n st.flush w .nilIface) := by
  have hszl : sz ≤ 300000 := by rw [hs]; exact zbSize_le hn
  have Hs := Lib.hid (fun v w => belowSync_any v w)
  have H1 := Lib.hid (fun w => first_nil w)
  have hm := fun w => meth_belowSync ⟨b, 0, none⟩ w
  obtain ⟨ho, ⟨wv, hsy, hin⟩, lb, ls, lw⟩ := id h
  obtain ⟨c0, c1, c2, c3, c4, f2, f3, f4⟩ := SyIs.cells hsy
  by_cases hb : st.begun = true
  · obtain ⟨q, bf, rfl, lq, lf, hW, hF⟩ := hin hb
    rw [hb] at c2
    have Hf := Lib.hid ((bufFlush_any st w ho hW hF lw lb lq (by omega) hszl).mono (fun r w2 (h : FlPost B b q bf sz st w r w2) => (by
      obtain ⟨e, o1, o2, o3⟩ := h
      have hs2 : SyIs b s n st.flush.begun st.flush.stopped (.pointer (some ⟨q, 0, none⟩)) w2 := by
        rw [Zb.flush_begun, Zb.flush_stopped]
        exact o3.keep _ _ _ _ hsy (by decide)
      have hW2 : WrIs b q bf sz st.flush.wait.size w2 := by rw [Zb.flush_wait]; exact o2
      have hF2 : BfIs bf sz st.flush.wait w2 := by
        obtain ⟨cur, f1, f2, f3, f4⟩ := hF
        rw [Zb.flush_wait]
        exact ⟨cur, o3.keep _ _ _ _ f1 (by decide), f2, Nat.zero_le _, fun j hj => absurd hj (by simp)⟩
      exact ⟨e, hs2.cells.1, ⟨o1, ⟨_, hs2, fun _ => ⟨q, bf, rfl, lq, lf, hW2, hF2⟩⟩, lb, ls, Nat.le_trans lw o3.below.size⟩, o3.more (by decide)⟩ :
      r = .returned .nilIface ∧ w2.cell? ⟨s, 0, none⟩ = some (.iface 128 (.pointer (some ⟨b, 0, none⟩))) ∧ BsIs B b s sz n st.flush w2 ∧ KT TB B w w2)))
    clear h ho hin hsy lb ls lw hb lq lf hW hF hok hs hn hl hszl
    go_enter Tryz.func63, Tryz.ntmps63
    go_wp2_with fail
    go_at_call 104
    refine Hf.out.mono ?_
    rintro r w2 ⟨rfl, d0, h2, h3⟩
    have H2 := Lib.hid (And.intro h2 h3)
    clear h2 h3
    go_wp2_with fail
    go_at_call 223
    refine (Hs.out _ _).mono ?_
    rintro r w' ⟨rfl, rfl⟩
    go_wp2_with fail
    go_at_call 106
    refine (H1.out _).mono ?_
    rintro r w' ⟨rfl, rfl⟩
    go_wp2
    go_ret
    exact ⟨rfl, H2.out⟩
  · have hb2 : st.begun = false := by simpa using hb
    rw [hb2] at c2
    have e : st.flush = st := Zb.flush_id (hok.none hb2).1
    have HX := Lib.hid (show BsIs B b s sz n st.flush w from by rw [e]; exact h)
    clear h ho hin hsy lb ls lw hb hb2 hok hs hn hl hszl e
    go_enter Tryz.func63, Tryz.ntmps63
    go_wp2_with fail
    go_at_call 223
    refine (Hs.out _ _).mono ?_
    rintro r w' ⟨rfl, rfl⟩
    go_wp2_with fail
    go_at_call 106
    refine (H1.out _).mono ?_
    rintro r w' ⟨rfl, rfl⟩
    go_wp2
    go_ret
    exact ⟨rfl, HX.out, KT.refl _ _ _⟩

theorem BsIs.keep {B b s sz : Nat} {n : Int} {st : Zb} {w w' : World} {T : List TypeId} (h : BsIs B b s sz n st w) (k : KT T B w w') (hT : T = []) : BsIs B b s sz n st w' := by
  subst hT
  obtain ⟨ho, ⟨wv, hsy, hin⟩, lb, ls, lw⟩ := h
  refine ⟨k.out ho (by simp) (by simp), ⟨wv, k.keep _ _ _ _ hsy (by simp), fun hb => ?_⟩, lb, ls, Nat.le_trans lw k.below.size⟩
  obtain ⟨q, bf, e, lq, lf, hW, cur, f1, f2⟩ := hin hb
  exact ⟨q, bf, e, lq, lf, k.keep _ _ _ _ hW (by simp), cur, k.keep _ _ _ _ f1 (by simp), f2⟩

/-- The closure of Stop: was there anything to stop? -/
def StPost (B b s sz p : Nat) (n : Int) (st : Zb) (w0 : World) (r : Ending) (w' : World) : Prop :=
  r = .returned (.bool (st.begun && !st.stopped)) ∧ BsIs B b s sz n (if st.begun && !st.stopped then { st with stopped := true } else st) w' ∧ KT TB B w0 w' ∧ w'.cell? ⟨p, 0, none⟩ = some (.pointer (some ⟨s, 0, none⟩))

set_option maxRecDepth 100000 in
set_option maxHeartbeats 2000000 in
theorem stop107_any {B b s sz p : Nat} (n : Int) (st : Zb) (w : World) (h : BsIs B b s sz n st w) (hp : w.heap[p]? = some (.cells #[.pointer (some ⟨s, 0, none⟩)] 131 (0, 0))) :
    Calls Tryz.prog 107 #[.pointer (some ⟨p, 0, none⟩)] w (StPost B b s sz p n st w) := by
  obtain ⟨ho, ⟨wv, hsy, hin⟩, lb, ls, lw⟩ := id h
  obtain ⟨c0, c1, c2, c3, c4, f2, f3, f4⟩ := SyIs.cells hsy
  have hpc := cell_of_one hp
  have hsp : p ≠ s := by
    intro e
    have h2 : _ = _ := hsy
    rw [e, h2] at hp
    simp at hp
  obtain ⟨bg, hbg⟩ : ∃ bg, bg = st.begun := ⟨_, rfl⟩
  obtain ⟨sp, hst⟩ : ∃ sp, sp = st.stopped := ⟨_, rfl⟩
  have hfin : bg = true → sp = false → StPost B b s sz p n st w (.returned (.bool true)) (w.setCell ⟨s, 3, none⟩ (.bool true)) := by
    intro e1 e2
    have g1 : st.begun = true := by rw [← hbg, e1]
    have g2 : st.stopped = false := by rw [← hst, e2]
    have k1 := SyIs.set3 hsy true
    have t1 : KT [134] B w (w.setCell ⟨s, 3, none⟩ (.bool true)) := (KT.refl _ _ _).setCell (i := 3) hsy (by simp) ls _
    have e0 : (st.begun && !st.stopped) = true := by rw [g1, g2]; rfl
    unfold StPost
    rw [e0, if_pos rfl]
    refine ⟨rfl, ?_, t1.more (by decide), ?_⟩
    · refine ⟨t1.out ho (by simp) (by simp), ⟨wv, ?_, fun hb => ?_⟩, lb, ls, Nat.le_trans lw t1.below.size⟩
      · exact k1
      · obtain ⟨q, bf, e, lq, lf, hW, hF⟩ := hin g1
        exact ⟨q, bf, e, lq, lf, hW.setSy hsy, hF.setSy hsy⟩
    · rw [← hpc]
      exact World.cell?_of_block (w := w) (Below.heap_setCell _ _ _ _ (show p ≠ s from hsp))
  have hfin2 : (bg = false ∨ sp = true) → StPost B b s sz p n st w (.returned (.bool false)) w := by
    intro e
    have g : (st.begun && !st.stopped) = false := by
      rw [← hbg, ← hst]
      rcases e with e | e <;> rw [e] <;> simp
    unfold StPost
    rw [g]
    exact ⟨rfl, h, KT.refl _ _ _, hpc⟩
  have HF := Lib.hid (And.intro hfin hfin2)
  rw [← hbg] at c2
  rw [← hst] at c3
  clear h ho hin hsy lb ls lw hp hsp hbg hst hfin hfin2
  cases bg with
  | false =>
    have HX := Lib.hid (HF.out.2 (.inl rfl))
    clear HF
    go_enter Tryz.func107, Tryz.ntmps107
    go_wp2
    go_ret
    exact HX.out
  | true =>
    cases sp with
    | true =>
      have HX := Lib.hid (HF.out.2 (.inr rfl))
      clear HF
      go_enter Tryz.func107, Tryz.ntmps107
      go_wp2
      go_ret
      exact HX.out
    | false =>
      have HX := Lib.hid (HF.out.1 rfl rfl)
      clear HF
      go_enter Tryz.func107, Tryz.ntmps107
      go_wp2
      go_ret
      exact HX.out

set_option maxRecDepth 100000 in
set_option maxHeartbeats 2000000 in
theorem bsStop_any {B b s sz : Nat} (n : Int) (st : Zb) (w : World) (h : BsIs B b s sz n st w) (hok : st.Ok sz) (hs : sz = zbSize n) (hn : n ≤ 300000) (hl : st.out.length ≤ 500) :
    Calls Tryz.prog 64 #[.pointer (some ⟨s, 0, none⟩)] w (BsPost B b s sz n (st.stop true) w .nilIface) := by
  have k0 : KT [] B w (w.alloc (.cells #[.pointer (some ⟨s, 0, none⟩)] 131)) := (KT.refl [] B w).alloc h.lw _
  have Hc := Lib.hid (stop107_any (p := w.heap.size) n st _ (h.keep k0 rfl) (heap_alloc_new w (.cells #[.pointer (some ⟨s, 0, none⟩)] 131)))
  have HK := Lib.hid (k0.more (T' := TB) (by decide))
  obtain ⟨x, hx⟩ : ∃ x, x = (st.begun && !st.stopped) := ⟨_, rfl⟩
  unfold StPost at Hc
  rw [← hx] at Hc
  have hstop : st.stop true = if x then ({ st with stopped := true } : Zb).flush else st := by
    unfold Zb.stop
    rw [hx]
    rfl
  have Hy := Lib.hid (fun (w2 : World) (e : x = true) (h2 : BsIs B b s sz n { st with stopped := true } w2) => bsSync_any n { st with stopped := true } w2 h2 ⟨hok.fit, fun hb => by
    have e2 : st.begun = false := hb
    rw [hx, e2] at e
    simp at e⟩ hs hn hl)
  have HS := Lib.hid hstop
  clear h hok hs hn hl k0 hx hstop
  cases x with
  | true =>
    go_enter Tryz.func64, Tryz.ntmps64
    go_wp2_with fail
    go_at_call 107
    refine Hc.out.mono ?_
    rintro r w2 ⟨rfl, h2, h3, h4⟩
    have Hz := Lib.hid (Hy.out w2 (by simp) h2)
    have H3 := Lib.hid (HK.out.trans h3)
    clear h2 h3
    go_wp2_with fail
    go_at_call 63
    refine Hz.out.mono ?_
    rintro r w3 ⟨rfl, h5, h6⟩
    have H5 := Lib.hid (And.intro h5 (H3.out.trans h6))
    clear h5 h6
    go_wp2
    go_ret
    refine ⟨rfl, ?_, H5.out.2⟩
    rw [HS.out]
    exact H5.out.1
  | false =>
    go_enter Tryz.func64, Tryz.ntmps64
    go_wp2_with fail
    go_at_call 107
    refine Hc.out.mono ?_
    rintro r w2 ⟨rfl, h2, h3, h4⟩
    have H3 := Lib.hid (And.intro h2 (HK.out.trans h3))
    clear h2 h3
    go_wp2
    go_ret
    refine ⟨rfl, ?_, H3.out.2⟩
    rw [HS.out]
    exact H3.out.1
end Go.Proofs.YtchmhdmapknmfaaGreatDoor
