/-
  Escape, ZEscape: a text as it is written between quotes. JTrue8 of a text that is UTF-8.
-/
import Derived.Test.YtchmhdmapknmfaaGreatDoorBn
import Derived.Test.YtchmhdmapknmfaaGreatDoorBi
namespace Go.Proofs.YtchmhdmapknmfaaGreatDoor
open Go.RowKit

set_option maxRecDepth 100000 in
set_option maxHeartbeats 400000 in
theorem safeAddString_any {B c b e : Nat} {xs : List UInt8} (s : ByteArray) (w : World) (h : Enc B c b e xs w) (hT : Lib.Utf8Tabs 1 2 w) (hb15 : 11 ≤ b) (hs : s.size ≤ 100000) (hxs : xs.length ≤ 1000) :
    Calls Tryz.prog 87 #[.pointer (some ⟨e, 0, none⟩), .string s] w fun r w' => r = .returned (.tuple #[]) ∧ Buf B b (xs ++ Pl.esc (bts s)) w' ∧ Keeps B b w w' := by
  have Hs := Lib.hid (safeAppend_any s w h.buf hT hb15 hs hxs)
  have hc := (cells4 h.blk).2.1
  clear h hT
  go_enter Tryz.func87, Tryz.ntmps87
  go_wp2_with fail
  refine Hs.out.mono ?_
  rintro r w1 ⟨rfl, hB, hK⟩
  have HB := Lib.hid hB
  have HK := Lib.hid hK
  clear hB hK
  go_wp2
  go_end0
  exact ⟨rfl, HB.out, HK.out⟩

theorem utf8Tabs_below {B : Nat} {w w' : World} (h : Lib.Utf8Tabs 1 2 w) (k : Below B w w') (hB : 11 ≤ B) : Lib.Utf8Tabs 1 2 w' := utf8Tabs_keeps (b := B) h (Keeps.of_below k) hB hB

set_option maxRecDepth 100000 in
set_option maxHeartbeats 400000 in
theorem escape_any (s : ByteArray) (w : World) (hT : Lib.Utf8Tabs 1 2 w) (hH : 11 ≤ w.heap.size) (hs : s.size ≤ 100000) :
    Calls Tryz.prog 48 #[.string s] w fun r w' => r = .returned (.string ⟨(Pl.esc (bts s)).toArray⟩) ∧ Below w.heap.size w w' := by
  have Hn := Lib.hid (newEncoder_any .nilFunc .nilFunc w)
  have HT := Lib.hid hT
  clear hT
  unfold cfgV at Hn
  go_enter Tryz.func48, Tryz.ntmps48
  go_wp2_with fail
  refine Hn.out.mono ?_
  rintro r w1 ⟨rfl, hN⟩
  have HN := Lib.hid hN
  have Hs := Lib.hid (safeAddString_any s w1 hN.enc (utf8Tabs_below HT.out hN.below hH) (by omega) hs (by simp))
  clear hN Hn
  go_wp2_with fail
  refine Hs.out.mono ?_
  rintro r w2 ⟨rfl, hB, hK⟩
  have hc := (cells4 ((HN.out.enc.next hB hK).blk)).2.1
  have Hstr := Lib.hid (string_any w2 hB)
  have Hb2 := Lib.hid (HN.out.below.trans (hK.below (by omega) (by omega)))
  clear hB hK Hs
  go_wp2_with fail
  refine Hstr.out.mono ?_
  rintro r w' ⟨rfl, rfl⟩
  go_wp2
  go_ret
  exact ⟨by simp, Hb2.out⟩

set_option maxRecDepth 100000 in
set_option maxHeartbeats 400000 in
theorem zEscape_any (s : ByteArray) (w : World) (hT : Lib.Utf8Tabs 1 2 w) (hH : 11 ≤ w.heap.size) (hs : s.size ≤ 100000) :
    Calls Tryz.prog 18 #[.string s] w fun r w' => r = .returned (.string ⟨(Pl.esc (bts s)).toArray⟩) ∧ Below w.heap.size w w' := by
  have He := Lib.hid (escape_any s w hT hH hs)
  clear hT
  go_enter Tryz.func18, Tryz.ntmps18
  go_wp2_with fail
  refine He.out.mono ?_
  rintro r w1 ⟨rfl, hb⟩
  have Hb := Lib.hid hb
  clear hb
  go_wp2
  go_ret
  exact ⟨rfl, Hb.out⟩

theorem ownsRow_below {w w' : World} {B e size n : Nat} {v : Value} {xs : List Value} (h : w.ownsRow B e size v n xs) (k : Below w.heap.size w w') : w'.ownsRow B e size v n xs := by
  refine h.kept (grown_of_below k) ?_
  cases v.ownBlock with
  | none => exact .inl rfl
  | some g => exact .inr (by simp)

theorem V_step {s : ByteArray} {k : Nat} (hk : k < s.size) (h : Pl.V ((bts s).drop k)) : ∃ R K, Pl.dec ((bts s).drop k) = (R, K) ∧ 0 < K ∧ k + K ≤ s.size ∧ Pl.V ((bts s).drop (k + K)) ∧ (R = 65533 → 2 ≤ K) := by
  have hcons := bts_drop s k hk
  have hl : ((bts s).drop k).length = s.size - k := by rw [List.length_drop, bts_length]
  rw [hcons] at h
  cases h with
  | ascii _ _ h1 h2 =>
    refine ⟨_, 1, by rw [hcons]; exact Pl.dec_ascii _ _ h1, by omega, by omega, h2, fun e => by omega⟩
  | good _ _ h1 h2 h3 =>
    rw [← hcons] at h2 h3
    obtain ⟨R, K, hd⟩ : ∃ R K, Pl.dec ((bts s).drop k) = (R, K) := ⟨_, _, rfl⟩
    have hg := Pl.dec_good (l := (bts s).drop (k + 1)) (c := s[k]) h1 (by rw [← hcons]; exact h2) []
    rw [← hcons, hd] at hg
    rw [hd, List.drop_drop] at h3
    simp only at hg h3
    exact ⟨R, K, hd, by omega, by omega, h3, fun _ => by omega⟩

/-- What the loop of JTrue8 keeps. -/
def JRel (s : ByteArray) (w : World) (out i : Value) (wr : World) : Prop :=
  ∃ k : Nat, k ≤ s.size ∧ i = .int .i64 k ∧ wr.ownsRow w.heap.size 5 1 out k (bRow ((bts s).take k)) ∧ Below w.heap.size w wr ∧ Pl.V ((bts s).drop k)

set_option maxRecDepth 100000 in
set_option maxHeartbeats 400000 in
theorem jTrue8_valid (s : ByteArray) (w : World) (hT : Lib.Utf8Tabs 1 2 w) (hH : 11 ≤ w.heap.size) (hs : s.size ≤ 1000000) (hV : Pl.V (bts s)) :
    Calls Tryz.prog 19 #[.string s] w fun r w' => r = .returned (.string s) ∧ Below w.heap.size w w' := by
  have HT := Lib.hid hT
  obtain ⟨i0, hi, hz0, hz1, hz2⟩ := info_parts Tryz.info5
  clear hT
  go_enter Tryz.func19, Tryz.ntmps19
  go_wp2
  go_loopw [3, 4] (fun out i wr => JRel s w out i wr) (fun _ i _ => s.size - (intOf i).toNat)
  case atStart => exact ⟨0, Nat.zero_le _, rfl, World.ownsRow_nil _ _ _ _, Below.refl _ _, hV⟩
  case round =>
    obtain ⟨k, hk, rfl, hown, hb, hVk⟩ := hrel
    have Hb := Lib.hid hb
    have HTr := Lib.hid (utf8Tabs_below HT.out hb hH)
    have Hown := Lib.hid hown
    by_cases hlt : k < s.size
    · obtain ⟨R, K, hd, hK0, hK2, hV2, hRK⟩ := V_step hlt hVk
      have Hd := Lib.hid (decode_at_k hd)
      have HV2 := Lib.hid hV2
      have HX : Hid ((s.extract k (k + K)).size = K) := by
        have := congrArg List.length (bts_extract s k (k + K))
        rw [bts_length, List.length_take, List.length_drop, bts_length] at this
        show _ = _
        omega
      clear hV2 hd hVk hown hb hV
      by_cases hR : R = 65533
      · have hr : (((R : Nat) : Int) == 65533) = true := by rw [hR]; rfl
        have hk1 : (2 : Int) ≤ (K : Int) := by have := hRK hR; omega
        clear hRK hR
        go_wp2_with fail
        refine (Hd.out wr HTr.out).mono ?_
        rintro r w1 ⟨rfl, hbel⟩
        have Hbel := Lib.hid hbel
        have Hown1 := Lib.hid (ownsRow_below Hown.out hbel)
        clear hbel
        go_wp2_with (at_builtin; refine Lib.wpList_append_own_string _ rfl _ _ 101 9 rfl w.heap.size 5 i0 Tryz.underlying101 Tryz.underlying9 hi hz0 hz1 hz2 _ _ _ rfl Hown1.out (s.extract k (k + K)) rfl ?c1 ?c2 ?c3 ?_)
        case c1 => rw [HX.out]; unfold maxLen; omega
        case c2 => rw [HX.out]; omega
        case c3 => have := Hb.out.size; have := Hbel.out.size; omega
        intro v' w2 hown2 hgrow _
        have Hown2 := Lib.hid hown2
        have Hb2 := Lib.hid ((Hb.out.trans (Hbel.out.mono Hb.out.size)).grown hgrow (by have := Hb.out.size; have := Hbel.out.size; omega) (own_ge Hown1.out))
        clear hown2 hgrow
        go_wp2
        exact ⟨⟨k + K, hK2, by go_num, by have := Hown2.out; rw [bRow_str, show (s.extract k (k + K)).data.toList = _ from bts_extract s k (k + K), ← bRow_append, show k + K - k = K from by omega, ← List.take_add] at this; exact this, Hb2.out, HV2.out⟩, by simp [intOf]; omega⟩
      · have hr : (((R : Nat) : Int) == 65533) = false := by rw [beq_eq_false_iff_ne]; omega
        clear hRK hR
        go_wp2_with fail
        refine (Hd.out wr HTr.out).mono ?_
        rintro r w1 ⟨rfl, hbel⟩
        have Hbel := Lib.hid hbel
        have Hown1 := Lib.hid (ownsRow_below Hown.out hbel)
        clear hbel
        go_wp2_with (at_builtin; refine Lib.wpList_append_own_string _ rfl _ _ 101 9 rfl w.heap.size 5 i0 Tryz.underlying101 Tryz.underlying9 hi hz0 hz1 hz2 _ _ _ rfl Hown1.out (s.extract k (k + K)) rfl ?c1 ?c2 ?c3 ?_)
        case c1 => rw [HX.out]; unfold maxLen; omega
        case c2 => rw [HX.out]; omega
        case c3 => have := Hb.out.size; have := Hbel.out.size; omega
        intro v' w2 hown2 hgrow _
        have Hown2 := Lib.hid hown2
        have Hb2 := Lib.hid ((Hb.out.trans (Hbel.out.mono Hb.out.size)).grown hgrow (by have := Hb.out.size; have := Hbel.out.size; omega) (own_ge Hown1.out))
        clear hown2 hgrow
        go_wp2
        exact ⟨⟨k + K, hK2, by go_num, by have := Hown2.out; rw [bRow_str, show (s.extract k (k + K)).data.toList = _ from bts_extract s k (k + K), ← bRow_append, show k + K - k = K from by omega, ← List.take_add] at this; exact this, Hb2.out, HV2.out⟩, by simp [intOf]; omega⟩
    · have hke : k = s.size := by omega
      have hs2 := run_string_own hown
      have e2 : (bts s).take k = bts s := List.take_of_length_le (by rw [bts_length]; omega)
      rw [e2] at hs2
      clear e2 hown hke hVk hV hb
      go_wp2
      go_ret
      exact ⟨by cases s; simp, Hb.out⟩
end Go.Proofs.YtchmhdmapknmfaaGreatDoor
