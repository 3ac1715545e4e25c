/-
  Value and ZDurationText: the text that an encoder of durations writes.
-/
import Derived.Test.YtchmhdmapknmfaaGreatDoorBh
namespace Go.Proofs.YtchmhdmapknmfaaGreatDoor
open Go.RowKit

theorem Keeps.below {B b H : Nat} {w w' : World} (h : Keeps B b w w') (hB : H ≤ B) (hb : H ≤ b) : Below H w w' := ⟨h.os, h.tape, h.output, h.size, fun k hk => h.block k (by omega) (by omega)⟩

theorem meth_AppendDuration (a : Addr) (w : World) : (method 524 139 (.pointer (some a)) "AppendDuration").run Tryz.prog w = .ok (230, .pointer (some a)) w := by kernel_rfl

/-- What a function value of one captured variable writes into an empty encoder. -/
def Writes (f : Nat) (q : Nat) (T : List UInt8) (B b e : Nat) (w : World) : Prop :=
  Calls Tryz.prog f #[.iface 139 (.pointer (some ⟨e, 0, none⟩)), .pointer (some ⟨q, 0, none⟩)] w fun r w' => r = .returned (.tuple #[]) ∧ Buf B b T w' ∧ Keeps B b w w'

set_option maxRecDepth 100000 in
set_option maxHeartbeats 400000 in
theorem durClosure {B c b e q f : Nat} {T : List UInt8} (d : Int) (w : World) (h : Enc B c b e [] w) (hq : w.cell? ⟨q, 0, none⟩ = some (.int .i64 d)) (hc11 : w.cell? ⟨c, 11, none⟩ = some (.func (.func f) #[] #[]))
    (hT : ((0 : Int) == (T.length : Int)) = false)
    (Hf : Hid (Calls Tryz.prog f #[.int .i64 d, .iface 139 (.pointer (some ⟨e, 0, none⟩))] w fun r w' => r = .returned (.tuple #[]) ∧ Buf B b T w' ∧ Keeps B b w w'))
    (hf : ∀ args w, (callFunc f args).run Tryz.prog w = .ok (.enter f args) w) :
    Writes 38 q T B b e w := by
  have Ha := Lib.hid (appendDuration_any d w h hc11 hT Hf hf)
  have hm := meth_AppendDuration ⟨e, 0, none⟩ w
  clear h hT hc11 Hf hf
  unfold Writes
  go_enter Tryz.func38, Tryz.ntmps38
  go_wp2_with fail
  refine Ha.out.mono ?_
  rintro r w' ⟨rfl, hB, hK⟩
  have HB := Lib.hid hB
  have HK := Lib.hid hK
  clear hB hK Ha
  go_wp2
  go_end0
  exact ⟨rfl, HB.out, HK.out⟩

set_option maxRecDepth 100000 in
set_option maxHeartbeats 400000 in
theorem value_any {vt vd : Value} {T : List UInt8} (g q : Nat) (w : World)
    (hg : ∀ args w, (callFunc g args).run Tryz.prog w = .ok (.enter g args) w)
    (HW : ∀ w' H, H = w.heap.size + 1 → Below w.heap.size w w' → Enc (H + 3) H (H + 1) (H + 2) [] w' → w'.cell? ⟨H, 10, none⟩ = some vt → w'.cell? ⟨H, 11, none⟩ = some vd → Writes g q T (H + 3) (H + 1) (H + 2) w') :
    Calls Tryz.prog 36 #[cfgV vt vd, .func (.func g) #[] #[.pointer (some ⟨q, 0, none⟩)]] w fun r w' => r = .returned (.string ⟨T.toArray⟩) ∧ Below w.heap.size w w' := by
  have HW := Lib.hid HW
  have Hn := Lib.hid (newEncoder_any vt vd (w.alloc (.cells #[eS, eS, eS, eS, eS, eS, eS, .bool false, eS, .nilFunc, vt, vd, .nilFunc, .nilFunc, eS] 79)))
  unfold cfgV at *
  go_enter Tryz.func36, Tryz.ntmps36
  go_wp2_with fail
  refine Hn.out.mono ?_
  rintro r w1 ⟨rfl, hN⟩
  have HN := Lib.hid hN
  have hb : Below w.heap.size w w1 := ((Below.refl _ w).alloc (Nat.le_refl _) _).trans (hN.below.mono (by simp))
  have Hw := Lib.hid (HW.out w1 (w.heap.size + 1) rfl hb (by simpa using hN.enc) (by simpa using hN.c10) (by simpa using hN.c11))
  have Hb := Lib.hid hb
  clear hN hb Hn
  unfold Writes at Hw
  go_wp2_with fail
  refine Hw.out.mono ?_
  rintro r w2 ⟨rfl, hB, hK⟩
  have hc := (cells4 ((HN.out.enc.next (by simpa using hB) (by simpa using hK)).blk)).2.1
  simp only [World.size_alloc] at hc
  have Hs := Lib.hid (string_any w2 hB)
  have Hb2 := Lib.hid (Hb.out.trans (hK.below (by omega) (by omega)))
  clear hB hK
  go_wp2_with fail
  refine Hs.out.mono ?_
  rintro r w' ⟨rfl, rfl⟩
  go_wp2
  go_ret
  exact ⟨rfl, Hb2.out⟩
end Go.Proofs.YtchmhdmapknmfaaGreatDoor
