/-
  bufio.Writer: Write of more than the buffer holds.
-/
import Derived.Test.YtchmhdmapknmfaaGreatDoorWg
namespace Go.Proofs.YtchmhdmapknmfaaGreatDoor
open Go.RowKit

def BwRel (B b q bf sz g cap : Nat) (out : List ByteArray) (t : ByteArray) (w : World) (v1 v4 : Value) (wr : World) : Prop :=
  v1 = .slice (some ⟨g, 0, none⟩) t.size cap ∧ v4 = .int .i64 0 ∧ w = wr ∨
  (∃ a c, v1 = .slice a 0 c) ∧ v4 = .int .i64 (t.size : Int) ∧ OutIs B b (out ++ [t]) wr ∧ WrIs b q bf sz 0 wr ∧ BfIs bf sz ⟨#[]⟩ wr ∧ KT [130, 209, 9, 5] B w wr

set_option maxRecDepth 100000 in
set_option maxHeartbeats 4000000 in
theorem bufWrite_big {B b q bf sz g : Nat} (cap : Nat) (s : Zb) (t : ByteArray) (w : World) (ho : OutIs B b s.out w) (hw : WrIs b q bf sz s.wait.size w) (hf : BfIs bf sz s.wait w) (hp : PBy g t w) (hB : B ≤ w.heap.size) (hb : B ≤ b) (hq : B ≤ q) (hsz : sz ≤ 300000) (hsz0 : 0 < sz) (ht : t.size ≤ 5000000) (hbig : sz < t.size) (hwt : s.wait = ⟨#[]⟩) (hl : s.out.length ≤ 1000) :
    Calls Tryz.prog 105 #[.pointer (some ⟨q, 0, none⟩), .slice (some ⟨g, 0, none⟩) t.size cap] w (BwPost B b q bf sz (s.lay sz t) w t.size) := by
  have e0 : s.wait.size = 0 := by rw [hwt]; rfl
  rw [e0] at hw
  rw [hwt] at hf
  have Ha := Lib.hid (fun (W : World) (h : WrIs b q bf sz 0 W) => (available_any W h hsz (Nat.zero_le _)).mono (fun r w' (h : r = .returned (.int .i64 ((sz : Int) - ((0 : Nat) : Int))) ∧ ∃ m, w' = W.drewN m) => (⟨by rw [h.1]; simp, h.2⟩ : r = .returned (.int .i64 (sz : Int)) ∧ ∃ m, w' = W.drewN m)))
  have Hb := Lib.hid (fun (W : World) (h : WrIs b q bf sz 0 W) => buffered_cnt W h)
  have Hc := Lib.hid (fun (m : Nat) => (belowWrite_any cap s.out t (w.drewN m) ho hp hB hl hb).mono
      (fun r w2 (h : r = .returned (.tuple #[.int .i64 (t.size : Int), .nilIface]) ∧ OutIs B b (s.out ++ [t]) w2 ∧ KT [130, 9] B (w.drewN m) w2) =>
        (⟨h.1, h.2.1, h.2.2.undrewN, h.2.2.keep _ _ _ _ hw (by decide), (by obtain ⟨cur, f1, f2⟩ := hf; exact ⟨cur, h.2.2.keep _ _ _ _ f1 (by decide), f2⟩)⟩ :
        r = .returned (.tuple #[.int .i64 (t.size : Int), .nilIface]) ∧ OutIs B b (s.out ++ [t]) w2 ∧ KT [130, 9] B w w2 ∧ WrIs b q bf sz 0 w2 ∧ BfIs bf sz ⟨#[]⟩ w2)))
  have hm := fun w => meth_belowWrite ⟨b, 0, none⟩ w
  have hsI : (sz : Int) ≤ 300000 := by omega
  have hs0 : (0 : Int) < (sz : Int) := by omega
  have hs00 : ¬ sz = 0 := by omega
  have htI : (sz : Int) < (t.size : Int) := by omega
  have ht2 : (t.size : Int) ≤ 5000000 := by omega
  have HA := Lib.hid (And.intro hw (And.intro hq (And.intro hwt hbig)))
  clear ho hf hp hB hb hq hsz hsz0 ht hbig hwt hl e0 hw
  go_enter Tryz.func105, Tryz.ntmps105
  go_wp2_with fail
  go_loopw [1, 4, 6] (fun v1 v4 _ wr => BwRel B b q bf sz g cap s.out t w v1 v4 wr) (fun _ v4 _ _ => 1 - (intOf v4).toNat)
  case atStart => exact .inl ⟨rfl, rfl, rfl⟩
  case round =>
    rcases hrel with ⟨rfl, rfl, rfl⟩ | ⟨⟨a, c, rfl⟩, rfl, hO, hW, hF, hK⟩
    · obtain ⟨c0, c1, c2, c3, f0, f2⟩ := HA.out.1.cells
      rw [show (((0 : Nat) : Int)) = 0 from rfl] at c2
      go_wp2_with fail
      go_at_call 102
      refine (Ha.out _ HA.out.1).mono ?_
      rintro r w' ⟨rfl, m, rfl⟩
      go_wp2_with fail
      go_at_call 103
      refine (Hb.out (w.drewN m) HA.out.1).mono ?_
      rintro r w' ⟨rfl, rfl⟩
      go_wp2_with fail
      go_at_call 224
      refine (Hc.out m).mono ?_
      rintro r w2 ⟨rfl, hO, hK, hW, hF⟩
      obtain ⟨d0, d1, d2, d3, d4, d5⟩ := hW.cells
      have HF := Lib.hid (And.intro hO (And.intro hK (And.intro hW hF)))
      clear hO hK hW hF
      go_wp2_with fail
      obtain ⟨hO, hK, hW, cur, g1, g2⟩ := HF.out
      refine ⟨.inr ⟨⟨_, _, rfl⟩, by simp, hO.setOther hW (by decide) (by decide) _, hW.setErr, ⟨cur, ?_, g2⟩, (hK.more (by decide)).setCell hW (by decide) HA.out.2.1 _⟩, by simp [intOf]; omega⟩
      rw [Below.heap_setCell _ _ _ _ (show bf ≠ q from fun e => by rw [e] at g1; have h2 : _ = _ := hW; rw [g1] at h2; simp at h2)]
      exact g1
    · obtain ⟨c0, c1, c2, c3, f0, f2⟩ := hW.cells
      rw [show (((0 : Nat) : Int)) = 0 from rfl] at c2
      have HF := Lib.hid (And.intro hO (And.intro hK (And.intro hW hF)))
      clear hO hK hW hF
      go_wp2_with fail
      go_at_call 102
      refine (Ha.out _ HF.out.2.2.1).mono ?_
      rintro r w' ⟨rfl, m, rfl⟩
      go_wp2_with fail
      go_region_law (refine step_copy_none rfl (.tmp 80) (.tmp 81) 101 101 rfl 5 Tryz.underlying101 Tryz.one5 (some ⟨bf, 0, none⟩) a sz sz 0 c (by simp [Act.eval, Act.put]) (by simp [Act.eval, Act.put]) (Nat.zero_min _) ?_)
      all_goals
        go_wp2_with fail
        go_ret2
        obtain ⟨hO, hK, hW, cur, g1, g2⟩ := HF.out
        have hlay : s.lay sz t = { s with out := s.out ++ [t] } := by unfold Zb.lay; rw [if_pos HA.out.2.2.2]
        have e3 : s.wait.size = 0 := by rw [HA.out.2.2.1]; rfl
        rw [hlay]
        refine ⟨rfl, hO.setOther (w := wr) hW (by decide) (by decide) _, ?_, ?_, KT.setCell (w' := wr.drewN (m + 1)) ⟨zb_drewN hK.below _, hK.keep⟩ hW (by decide) HA.out.2.1 _⟩
        · show WrIs b q bf sz s.wait.size _
          rw [e3]
          exact WrIs.set (w := wr.drewN (m + 1)) hW 0
        · show BfIs bf sz s.wait _
          rw [HA.out.2.2.1]
          refine ⟨cur, ?_, g2⟩
          rw [Below.heap_setCell _ _ _ _ (show bf ≠ q from fun e => by rw [e] at g1; have h2 : _ = _ := hW; rw [g1] at h2; simp at h2)]
          exact g1
end Go.Proofs.YtchmhdmapknmfaaGreatDoor
