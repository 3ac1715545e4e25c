/-
  jsonEncoder.AppendString at an empty buffer; StringDurationEncoder; ZDurationText by the encoder of strings.
-/
import Derived.Test.YtchmhdmapknmfaaGreatDoorDg
import Derived.Test.YtchmhdmapknmfaaGreatDoorBo
import Derived.Test.YtchmhdmapknmfaaGreatDoorBd2
import Derived.Test.YtchmhdmapknmfaaGreatDoorBl
namespace Go.Proofs.YtchmhdmapknmfaaGreatDoor
open Go.RowKit
attribute [local go_sem ↓] Go.wp_at_zero Go.wp_at_succ

/-- A text between quotation marks. -/
def qt (T : List UInt8) : List UInt8 := 34 :: (T ++ [34])

set_option maxRecDepth 100000 in
set_option maxHeartbeats 400000 in
theorem appendString_json {B c b e : Nat} (s : ByteArray) (w : World) (h : Enc B c b e [] w) (hT : Lib.Utf8Tabs 1 2 w) (hb15 : 11 ≤ b) (hs : s.size ≤ 10000) :
    Calls Tryz.prog 240 #[.pointer (some ⟨e, 0, none⟩), .string s] w fun r w' => r = .returned (.tuple #[]) ∧ Buf B b (qt (Pl.esc (bts s))) w' ∧ Keeps B b w w' := by
  have Hs := Lib.hid (sep_empty w h)
  have hc := (cells4 h.blk).2.1
  have Ha := Lib.hid (appendByte_any 34 34 w rfl h.buf (by simp))
  have HE := Lib.hid h
  have HT := Lib.hid hT
  clear h hT
  go_enter Tryz.func240, Tryz.ntmps240
  go_wp2_with fail
  refine Hs.out.mono ?_
  rintro r w' ⟨rfl, rfl⟩
  go_wp2_with fail
  refine Ha.out.mono ?_
  rintro r w1 ⟨rfl, hB, hK⟩
  have hE1 := HE.out.next hB hK
  have Hd := Lib.hid (safeAddString_any s w1 hE1 (utf8Tabs_keeps HT.out hK hb15 (by have := HE.out.buf.lt; omega)) hb15 (by omega) (by simp))
  have HE1 := Lib.hid hE1
  have HK1 := Lib.hid hK
  clear hB hK hE1 Ha Hs
  go_wp2_with fail
  refine Hd.out.mono ?_
  rintro r w2 ⟨rfl, hB, hK⟩
  have hE2 := HE1.out.next hB hK
  have hl := Pl.esc_length (bts s)
  rw [bts_length] at hl
  have hc2 := (cells4 hE2.blk).2.1
  have Ha := Lib.hid (appendByte_any 34 34 w2 rfl hB (by simp; omega))
  have HK2 := Lib.hid (HK1.out.trans hK)
  clear hB hK hE2 hl Hd
  go_wp2_with fail
  refine Ha.out.mono ?_
  rintro r w3 ⟨rfl, hB, hK⟩
  have HB := Lib.hid hB
  have HK3 := Lib.hid (HK2.out.trans hK)
  clear hB hK
  go_wp2
  go_end0
  exact ⟨rfl, by simpa [qt] using HB.out, HK3.out⟩

theorem meth_JsonAppendString (a : Addr) (w : World) : (method 524 139 (.pointer (some a)) "AppendString").run Tryz.prog w = .ok (240, .pointer (some a)) w := by kernel_rfl

theorem nil_JsonAppendString (a : Addr) (w : World) : (nilAhead 524 139 (.pointer (some a)) "AppendString").run Tryz.prog w = .ok (some false) w := by kernel_rfl

theorem Enc.later {B c b e : Nat} {xs : List UInt8} {w w' : World} (h : Enc B c b e xs w) (hb : Below w.drew.heap.size w.drew w') : Enc B c b e xs w' :=
  h.next (h.buf.below (below_ofDrew hb)) (Keeps.of_below ((below_ofDrew hb).mono h.buf.le))

theorem utf8_later {w w' : World} (h : Lib.Utf8Tabs 1 2 w) (hH : 11 ≤ w.heap.size) (hb : Below w.drew.heap.size w.drew w') : Lib.Utf8Tabs 1 2 w' := utf8Tabs_below h (below_ofDrew hb) hH

theorem keeps_later {B b : Nat} {w w' w'' : World} (hB : B ≤ w.heap.size) (hb : Below w.drew.heap.size w.drew w') (hk : Keeps B b w' w'') : Keeps B b w w'' :=
  (Keeps.of_below ((below_ofDrew hb).mono hB)).trans hk

set_option maxRecDepth 100000 in
set_option maxHeartbeats 400000 in
theorem stringDurEncoder_any {B c b e : Nat} (d : Int) (w : World) (h : Enc B c b e [] w) (hT : Lib.Utf8Tabs 1 2 w) (hb15 : 11 ≤ b) (h0 : -9223372036854775808 ≤ d) (h1 : d ≤ 9223372036854775807) (hs : (dt d).length ≤ 10000) :
    Calls Tryz.prog 84 #[.int .i64 d, .iface 139 (.pointer (some ⟨e, 0, none⟩))] w fun r w' => r = .returned (.tuple #[]) ∧ Buf B b (qt (Pl.esc (dt d))) w' ∧ Keeps B b w w' := by
  have hH : 11 ≤ w.heap.size := by have := h.buf.lt; have := h.buf.le; omega
  have H := Lib.hid h
  have HT := Lib.hid hT
  have Hd := Lib.hid (fun W => durString_any d W h0 h1)
  have Ha := Lib.hid (fun W (hb : Below w.drew.heap.size w.drew W) => appendString_json (B := B) (c := c) (b := b) (e := e) ⟨(dt d).toArray⟩ W (h.later hb) (utf8_later hT hH hb) hb15 (by simpa [ByteArray.size] using hs))
  have hm := fun w => meth_JsonAppendString ⟨e, 0, none⟩ w
  have hna := fun w => nil_JsonAppendString ⟨e, 0, none⟩ w
  have ebt : bts ⟨(dt d).toArray⟩ = dt d := by simp [bts]
  rw [ebt] at Ha
  clear h hT h0 h1 hs ebt hb15
  go_enter Tryz.func84, Tryz.ntmps84
  go_wp2_with fail
  go_region_held3 (fun _ => True) (go_keep) (first
      | (go_at_call 127; refine (Hd.out _).mono ?_; rintro r w' ⟨rfl, hb⟩)
      | (go_at_call 240; refine (Ha.out _ (by assumption)).mono ?_; rintro r w' ⟨rfl, hB, hK⟩))
  all_goals
    go_end0
    exact ⟨rfl, by assumption, keeps_later H.out.buf.le (by assumption) (by assumption)⟩
end Go.Proofs.YtchmhdmapknmfaaGreatDoor
