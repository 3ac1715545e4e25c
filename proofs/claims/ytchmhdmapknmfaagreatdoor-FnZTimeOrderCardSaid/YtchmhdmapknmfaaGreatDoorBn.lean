/-
  The escaping of a text: the walk of safeAppendStringLike over a string.
-/
import Derived.Test.YtchmhdmapknmfaaGreatDoorBm
namespace Go.Proofs.YtchmhdmapknmfaaGreatDoor
open Go.RowKit

theorem decode_at_k {s : ByteArray} {k R K : Nat} (hd : Pl.dec ((bts s).drop k) = (R, K)) (w : World) (hT : Lib.Utf8Tabs 1 2 w) :
    Calls Tryz.prog 49 #[.string (s.extract k s.size)] w fun e w' => e = .returned (.tuple #[.int .i32 (R : Int), .int .i64 (K : Int)]) ∧ Below w.heap.size w w' := by
  have h := Tryz.utf8_DecodeRuneInString (s.extract k s.size) w hT
  have e : bts (s.extract k s.size) = (bts s).drop k := Lib.extract_to_end s k
  rw [decodeGo_eq, e, hd] at h
  exact h

theorem grown_of_below {w w' : World} (h : Below w.heap.size w w') : w.grownBy w' none := ⟨h.os, h.tape, h.output, h.size, fun k hk _ => h.block k hk⟩

theorem Buf.below {B b : Nat} {xs : List UInt8} {w w' : World} (h : Buf B b xs w) (k : Below w.heap.size w w') : Buf B b xs w' := by
  obtain ⟨hlt, hle, sv, hblk, hown⟩ := h
  refine ⟨hlt, Nat.le_trans hle k.size, sv, by rw [k.block b (by omega)]; exact hblk, hown.kept (grown_of_below k) ?_⟩
  cases sv.ownBlock with
  | none => exact .inl rfl
  | some g => exact .inr (by simp)

theorem hex_at (n : Nat) (h : n < 16) : ∀ hh : n < (⟨#[48, 49, 50, 51, 52, 53, 54, 55, 56, 57, 97, 98, 99, 100, 101, 102]⟩ : ByteArray).size,
    ((((⟨#[48, 49, 50, 51, 52, 53, 54, 55, 56, 57, 97, 98, 99, 100, 101, 102]⟩ : ByteArray)[n]'hh).toNat : Nat) : Int) = ((Pl.hexd n).toNat : Int) := by
  have key : ∀ m : Fin 16, ((((#[48, 49, 50, 51, 52, 53, 54, 55, 56, 57, 97, 98, 99, 100, 101, 102] : Array UInt8)[m.val]'(m.isLt)).toNat : Nat) : Int) = ((Pl.hexd m.val).toNat : Int) := by decide
  exact fun _ => key ⟨n, h⟩

theorem flush_buf {B b : Nat} {s : ByteArray} {p k : Nat} {pre out ys : List UInt8} {w : World} (h : Buf B b ys w) (e : ys = pre ++ (s.extract p k).data.toList ++ out) : Buf B b (pre ++ ((bts s).drop p).take (k - p) ++ out) w := by
  rw [← bts_extract, ← show ys = pre ++ bts (s.extract p k) ++ out from e]; exact h

set_option maxRecDepth 100000 in
set_option maxHeartbeats 2000000 in
theorem safeAppend_any {B b : Nat} {xs : List UInt8} (s : ByteArray) (w : World) (h : Buf B b xs w) (hT : Lib.Utf8Tabs 1 2 w) (hb15 : 11 ≤ b) (hs : s.size ≤ 100000) (hxs : xs.length ≤ 1000) :
    Calls Tryz.prog 128 #[.func (.func 129) #[] #[], .func (.func 49) #[] #[], .pointer (some ⟨b, 0, none⟩), .string s] w fun r w' => r = .returned (.tuple #[]) ∧ Buf B b (xs ++ Pl.esc (bts s)) w' ∧ Keeps B b w w' := by
  have H := Lib.hid h
  have HT := Lib.hid hT
  have hbB : b < B := h.lt
  clear h hT
  go_enter Tryz.func128, Tryz.ntmps128
  go_wp2
  go_loopw [8, 9] (fun last i wr => SRel B b s xs w last i wr) (fun _ i _ => s.size - (intOf i).toNat)
  case atStart => exact ⟨0, 0, xs, Nat.le_refl _, Nat.zero_le _, rfl, rfl, H.out, Keeps.refl _ _ _, by simp [SEq]⟩
  case round =>
    obtain ⟨p, k, pre, hpk, hk, rfl, rfl, hB, hK, heq⟩ := hrel
    have hbd := heq.bound hs hxs hpk hk
    have hex : (s.extract p k).size = k - p := by have := bts_extract s p k; have := congrArg List.length this; rw [bts_length, List.length_take, List.length_drop, bts_length] at this; omega
    have HX := Lib.hid hex
    have HB := Lib.hid hB
    have HK := Lib.hid hK
    have HE := Lib.hid heq
    have HTr := Lib.hid (utf8Tabs_keeps HT.out hK hb15 (by omega))
    clear hB hK heq hex
    by_cases hlt : k < s.size
    · obtain ⟨R, K, hd⟩ : ∃ R K, Pl.dec ((bts s).drop k) = (R, K) := ⟨_, _, rfl⟩
      have hcons := bts_drop s k hlt
      by_cases hc : s[k].toNat < 128
      · have hc' : (s[k].toNat : Int) < 128 := by omega
        clear hd hcons
        by_cases hpl : Pl.plainB s[k] = true
        · have h3 : (32 : Int) ≤ (s[k].toNat : Int) ∧ s[k] ≠ 92 ∧ s[k] ≠ 34 := by simp [Pl.plainB] at hpl; exact ⟨by omega, hpl.1.2, hpl.2⟩
          have h32 := h3.1
          have h92 : ((s[k].toNat : Int) != 92) = true := by rw [bne_iff_ne]; intro e; exact h3.2.1 (UInt8.toNat_inj.1 (by simpa using (by omega : s[k].toNat = 92)))
          have h34 : ((s[k].toNat : Int) != 34) = true := by rw [bne_iff_ne]; intro e; exact h3.2.2 (UInt8.toNat_inj.1 (by simpa using (by omega : s[k].toNat = 34)))
          have Hnext := Lib.hid (HE.out.plain hpk hlt hc hpl)
          clear hpl h3 hc
          go_wp2
          exact ⟨⟨p, k + 1, pre, by omega, by omega, rfl, by go_num, HB.out, HK.out, Hnext.out⟩, by simp [intOf]; omega⟩
        · have hpl : Pl.plainB s[k] = false := by simpa using hpl
          by_cases h92v : s[k] = 92
          · have hv := h92v
            clear h92v
            · skip
              have h32 : (32 : Int) ≤ (s[k].toNat : Int) := by rw [hv]; decide
              have n92 : ((s[k].toNat : Int) != 92) = false := by rw [hv]; rfl
              have e92 : ((s[k].toNat : Int) == 92) = true := by rw [hv]; rfl
              have Hnext := Lib.hid (HE.out.flush (esc_at hlt hc hpl))
              have hesc : Pl.escB s[k] = [92, s[k]] := by unfold Pl.escB; rw [if_pos (Or.inl hv)]
              rw [hesc] at Hnext
              clear hesc hpl hc hv
              go_wp2_with fail
              refine (appendString_any (s.extract p k) wr HB.out (by rw [HX.out]; omega)).mono ?_
              rintro r w1 ⟨rfl, hB, hK⟩
              have HB1 := Lib.hid hB
              have HK1 := Lib.hid hK
              clear hB hK
              go_wp2_with fail
              refine (appendByte_any 92 92 w1 rfl HB1.out (by simp only [List.length_append]; rw [show (s.extract p k).data.toList.length = (s.extract p k).size from bts_length _, HX.out]; omega)).mono ?_
              rintro r w2 ⟨rfl, hB, hK⟩
              have HB2 := Lib.hid hB
              have HK2 := Lib.hid hK
              clear hB hK
              go_wp2_with fail
              refine (appendByte_any s[k] _ w2 rfl HB2.out (by simp only [List.length_append, List.length_cons, List.length_nil]; rw [show (s.extract p k).data.toList.length = (s.extract p k).size from bts_length _, HX.out]; omega)).mono ?_
              rintro r w3 ⟨rfl, hB, hK⟩
              have HB3 := Lib.hid hB
              have HK3 := Lib.hid hK
              clear hB hK
              go_wp2
              exact ⟨⟨k + 1, k + 1, _, by omega, by omega, by go_num, by go_num, flush_buf HB3.out (by simp only [List.append_assoc, List.cons_append, List.nil_append]), (((HK.out.trans HK1.out).trans HK2.out).trans HK3.out), Hnext.out⟩, by simp [intOf]; omega⟩
          by_cases h34v : s[k] = 34
          · have hv := h34v
            clear h34v h92v
            · skip
              have h32 : (32 : Int) ≤ (s[k].toNat : Int) := by rw [hv]; decide
              have n92 : ((s[k].toNat : Int) != 92) = true := by rw [hv]; rfl
              have n34 : ((s[k].toNat : Int) != 34) = false := by rw [hv]; rfl
              have e92 : ((s[k].toNat : Int) == 92) = false := by rw [hv]; rfl
              have e34 : ((s[k].toNat : Int) == 34) = true := by rw [hv]; rfl
              have Hnext := Lib.hid (HE.out.flush (esc_at hlt hc hpl))
              have hesc : Pl.escB s[k] = [92, s[k]] := by unfold Pl.escB; rw [if_pos (Or.inr hv)]
              rw [hesc] at Hnext
              clear hesc hpl hc hv
              go_wp2_with fail
              refine (appendString_any (s.extract p k) wr HB.out (by rw [HX.out]; omega)).mono ?_
              rintro r w1 ⟨rfl, hB, hK⟩
              have HB1 := Lib.hid hB
              have HK1 := Lib.hid hK
              clear hB hK
              go_wp2_with fail
              refine (appendByte_any 92 92 w1 rfl HB1.out (by simp only [List.length_append]; rw [show (s.extract p k).data.toList.length = (s.extract p k).size from bts_length _, HX.out]; omega)).mono ?_
              rintro r w2 ⟨rfl, hB, hK⟩
              have HB2 := Lib.hid hB
              have HK2 := Lib.hid hK
              clear hB hK
              go_wp2_with fail
              refine (appendByte_any s[k] _ w2 rfl HB2.out (by simp only [List.length_append, List.length_cons, List.length_nil]; rw [show (s.extract p k).data.toList.length = (s.extract p k).size from bts_length _, HX.out]; omega)).mono ?_
              rintro r w3 ⟨rfl, hB, hK⟩
              have HB3 := Lib.hid hB
              have HK3 := Lib.hid hK
              clear hB hK
              go_wp2
              exact ⟨⟨k + 1, k + 1, _, by omega, by omega, by go_num, by go_num, flush_buf HB3.out (by simp only [List.append_assoc, List.cons_append, List.nil_append]), (((HK.out.trans HK1.out).trans HK2.out).trans HK3.out), Hnext.out⟩, by simp [intOf]; omega⟩
          have hlow : s[k].toNat < 32 := by
            simp [Pl.plainB] at hpl
            by_cases hx : 32 ≤ s[k].toNat
            · exact absurd (hpl hx h92v) h34v
            · omega
          by_cases hv10 : s[k] = 10
          · have hv := hv10
            clear hv10 h34v h92v hlow
            · skip
              have h32 : (s[k].toNat : Int) < 32 := by rw [hv]; decide
              have e92 : ((s[k].toNat : Int) == 92) = false := by rw [hv]; rfl
              have e34 : ((s[k].toNat : Int) == 34) = false := by rw [hv]; rfl
              have e10 : ((s[k].toNat : Int) == 10) = true := by rw [hv]; rfl
              have Hnext := Lib.hid (HE.out.flush (esc_at hlt hc hpl))
              have hesc : Pl.escB s[k] = [92, 110] := by rw [hv]; rfl
              rw [hesc] at Hnext
              clear hesc hpl hc hv
              go_wp2_with fail
              refine (appendString_any (s.extract p k) wr HB.out (by rw [HX.out]; omega)).mono ?_
              rintro r w1 ⟨rfl, hB, hK⟩
              have HB1 := Lib.hid hB
              have HK1 := Lib.hid hK
              clear hB hK
              go_wp2_with fail
              refine (appendByte_any 92 92 w1 rfl HB1.out (by simp only [List.length_append]; rw [show (s.extract p k).data.toList.length = (s.extract p k).size from bts_length _, HX.out]; omega)).mono ?_
              rintro r w2 ⟨rfl, hB, hK⟩
              have HB2 := Lib.hid hB
              have HK2 := Lib.hid hK
              clear hB hK
              go_wp2_with fail
              refine (appendByte_any 110 110 w2 rfl HB2.out (by simp only [List.length_append, List.length_cons, List.length_nil]; rw [show (s.extract p k).data.toList.length = (s.extract p k).size from bts_length _, HX.out]; omega)).mono ?_
              rintro r w3 ⟨rfl, hB, hK⟩
              have HB3 := Lib.hid hB
              have HK3 := Lib.hid hK
              clear hB hK
              go_wp2
              exact ⟨⟨k + 1, k + 1, _, by omega, by omega, by go_num, by go_num, flush_buf HB3.out (by simp only [List.append_assoc, List.cons_append, List.nil_append]), (((HK.out.trans HK1.out).trans HK2.out).trans HK3.out), Hnext.out⟩, by simp [intOf]; omega⟩
          by_cases hv13 : s[k] = 13
          · have hv := hv13
            clear hv10 hv13 h34v h92v hlow
            · skip
              have h32 : (s[k].toNat : Int) < 32 := by rw [hv]; decide
              have e92 : ((s[k].toNat : Int) == 92) = false := by rw [hv]; rfl
              have e34 : ((s[k].toNat : Int) == 34) = false := by rw [hv]; rfl
              have e10 : ((s[k].toNat : Int) == 10) = false := by rw [hv]; rfl
              have e13 : ((s[k].toNat : Int) == 13) = true := by rw [hv]; rfl
              have Hnext := Lib.hid (HE.out.flush (esc_at hlt hc hpl))
              have hesc : Pl.escB s[k] = [92, 114] := by rw [hv]; rfl
              rw [hesc] at Hnext
              clear hesc hpl hc hv
              go_wp2_with fail
              refine (appendString_any (s.extract p k) wr HB.out (by rw [HX.out]; omega)).mono ?_
              rintro r w1 ⟨rfl, hB, hK⟩
              have HB1 := Lib.hid hB
              have HK1 := Lib.hid hK
              clear hB hK
              go_wp2_with fail
              refine (appendByte_any 92 92 w1 rfl HB1.out (by simp only [List.length_append]; rw [show (s.extract p k).data.toList.length = (s.extract p k).size from bts_length _, HX.out]; omega)).mono ?_
              rintro r w2 ⟨rfl, hB, hK⟩
              have HB2 := Lib.hid hB
              have HK2 := Lib.hid hK
              clear hB hK
              go_wp2_with fail
              refine (appendByte_any 114 114 w2 rfl HB2.out (by simp only [List.length_append, List.length_cons, List.length_nil]; rw [show (s.extract p k).data.toList.length = (s.extract p k).size from bts_length _, HX.out]; omega)).mono ?_
              rintro r w3 ⟨rfl, hB, hK⟩
              have HB3 := Lib.hid hB
              have HK3 := Lib.hid hK
              clear hB hK
              go_wp2
              exact ⟨⟨k + 1, k + 1, _, by omega, by omega, by go_num, by go_num, flush_buf HB3.out (by simp only [List.append_assoc, List.cons_append, List.nil_append]), (((HK.out.trans HK1.out).trans HK2.out).trans HK3.out), Hnext.out⟩, by simp [intOf]; omega⟩
          by_cases hv9 : s[k] = 9
          · have hv := hv9
            clear hv10 hv13 hv9 h34v h92v hlow
            · skip
              have h32 : (s[k].toNat : Int) < 32 := by rw [hv]; decide
              have e92 : ((s[k].toNat : Int) == 92) = false := by rw [hv]; rfl
              have e34 : ((s[k].toNat : Int) == 34) = false := by rw [hv]; rfl
              have e10 : ((s[k].toNat : Int) == 10) = false := by rw [hv]; rfl
              have e13 : ((s[k].toNat : Int) == 13) = false := by rw [hv]; rfl
              have e9 : ((s[k].toNat : Int) == 9) = true := by rw [hv]; rfl
              have Hnext := Lib.hid (HE.out.flush (esc_at hlt hc hpl))
              have hesc : Pl.escB s[k] = [92, 116] := by rw [hv]; rfl
              rw [hesc] at Hnext
              clear hesc hpl hc hv
              go_wp2_with fail
              refine (appendString_any (s.extract p k) wr HB.out (by rw [HX.out]; omega)).mono ?_
              rintro r w1 ⟨rfl, hB, hK⟩
              have HB1 := Lib.hid hB
              have HK1 := Lib.hid hK
              clear hB hK
              go_wp2_with fail
              refine (appendByte_any 92 92 w1 rfl HB1.out (by simp only [List.length_append]; rw [show (s.extract p k).data.toList.length = (s.extract p k).size from bts_length _, HX.out]; omega)).mono ?_
              rintro r w2 ⟨rfl, hB, hK⟩
              have HB2 := Lib.hid hB
              have HK2 := Lib.hid hK
              clear hB hK
              go_wp2_with fail
              refine (appendByte_any 116 116 w2 rfl HB2.out (by simp only [List.length_append, List.length_cons, List.length_nil]; rw [show (s.extract p k).data.toList.length = (s.extract p k).size from bts_length _, HX.out]; omega)).mono ?_
              rintro r w3 ⟨rfl, hB, hK⟩
              have HB3 := Lib.hid hB
              have HK3 := Lib.hid hK
              clear hB hK
              go_wp2
              exact ⟨⟨k + 1, k + 1, _, by omega, by omega, by go_num, by go_num, flush_buf HB3.out (by simp only [List.append_assoc, List.cons_append, List.nil_append]), (((HK.out.trans HK1.out).trans HK2.out).trans HK3.out), Hnext.out⟩, by simp [intOf]; omega⟩
          · clear h34v h92v
            · skip
              have h32 : (s[k].toNat : Int) < 32 := by omega
              have e92 : ((s[k].toNat : Int) == 92) = false := by rw [beq_eq_false_iff_ne]; omega
              have e34 : ((s[k].toNat : Int) == 34) = false := by rw [beq_eq_false_iff_ne]; omega
              have e10 : ((s[k].toNat : Int) == 10) = false := by rw [beq_eq_false_iff_ne]; intro e; exact hv10 (UInt8.toNat_inj.1 (by simpa using (by omega : s[k].toNat = 10)))
              have e13 : ((s[k].toNat : Int) == 13) = false := by rw [beq_eq_false_iff_ne]; intro e; exact hv13 (UInt8.toNat_inj.1 (by simpa using (by omega : s[k].toNat = 13)))
              have e9 : ((s[k].toNat : Int) == 9) = false := by rw [beq_eq_false_iff_ne]; intro e; exact hv9 (UInt8.toNat_inj.1 (by simpa using (by omega : s[k].toNat = 9)))
              have Hnext := Lib.hid (HE.out.flush (esc_at hlt hc hpl))
              have hesc : Pl.escB s[k] = [92, 117, 48, 48, Pl.hexd (s[k].toNat / 16), Pl.hexd (s[k].toNat % 16)] := by unfold Pl.escB; rw [if_neg (by rintro (e | e) <;> (rw [e] at h32; exact absurd h32 (by decide))), if_neg hv10, if_neg hv13, if_neg hv9]
              rw [hesc] at Hnext
              clear hesc hpl hc hv10 hv13 hv9
              go_wp2_with fail
              refine (appendString_any (s.extract p k) wr HB.out (by rw [HX.out]; omega)).mono ?_
              rintro r w1 ⟨rfl, hB, hK⟩
              have HB1 := Lib.hid hB
              have HK1 := Lib.hid hK
              clear hB hK
              go_wp2_with fail
              refine (appendString_any ⟨#[92, 117, 48, 48]⟩ w1 HB1.out (by simp only [List.length_append]; rw [show (s.extract p k).data.toList.length = (s.extract p k).size from bts_length _, HX.out]; show _ + 4 ≤ _; omega)).mono ?_
              rintro r w2 ⟨rfl, hB, hK⟩
              have HB2 := Lib.hid hB
              have HK2 := Lib.hid hK
              clear hB hK
              go_wp2_with fail
              rw [hex_at (s[k].toNat / 16) (by omega)]
              refine (appendByte_any (Pl.hexd (s[k].toNat / 16)) _ w2 rfl HB2.out (by simp only [List.length_append, List.length_cons, List.length_nil]; rw [show (s.extract p k).data.toList.length = (s.extract p k).size from bts_length _, HX.out]; omega)).mono ?_
              rintro r w3 ⟨rfl, hB, hK⟩
              have HB3 := Lib.hid hB
              have HK3 := Lib.hid hK
              clear hB hK
              go_wp2_with fail
              rw [hex_at (s[k].toNat % 16) (by omega)]
              refine (appendByte_any (Pl.hexd (s[k].toNat % 16)) _ w3 rfl HB3.out (by simp only [List.length_append, List.length_cons, List.length_nil]; rw [show (s.extract p k).data.toList.length = (s.extract p k).size from bts_length _, HX.out]; omega)).mono ?_
              rintro r w4 ⟨rfl, hB, hK⟩
              have HB4 := Lib.hid hB
              have HK4 := Lib.hid hK
              clear hB hK
              go_wp2
              exact ⟨⟨k + 1, k + 1, _, by omega, by omega, by go_num, by go_num, flush_buf HB4.out (by simp only [List.append_assoc, List.cons_append, List.nil_append]), ((((HK.out.trans HK1.out).trans HK2.out).trans HK3.out).trans HK4.out), Hnext.out⟩, by simp [intOf]; omega⟩
      · have hc' : (128 : Int) ≤ (s[k].toNat : Int) := by omega
        have Hd := Lib.hid (decode_at_k hd)
        cases hbad : Pl.bad ((bts s).drop k) with
        | false =>
          have hg := Pl.dec_good (l := (bts s).drop (k + 1)) (c := s[k]) (by omega) (by rw [← hcons]; exact hbad) []
          rw [← hcons, hd] at hg
          have hK2 : k + K ≤ s.size := by have := hg.2.1; rw [List.length_drop, bts_length] at this; simp only at this; omega
          have hK0 : 0 < K := by have := hg.1; simp only at this; omega
          have Hnext := Lib.hid (HE.out.good hpk hlt (by omega) hbad)
          rw [hd] at Hnext
          have hRK : ¬ (R = 65533 ∧ K = 1) := by
            rintro ⟨rfl, rfl⟩
            simp [Pl.bad, hd] at hbad
          clear hg hbad hcons hd hc
          by_cases hR : R = 65533
          · have hr : (((R : Nat) : Int) != 65533) = false := by rw [hR]; rfl
            have hk1 : (((K : Nat) : Int) != 1) = true := by rw [bne_iff_ne]; intro e; exact hRK ⟨hR, by omega⟩
            clear hRK hR
            go_wp2_with fail
            refine (Hd.out wr HTr.out).mono ?_
            rintro r w1 ⟨rfl, hbel⟩
            have Hbel := Lib.hid hbel
            clear hbel
            go_wp2
            exact ⟨⟨p, k + K, pre, by omega, hK2, rfl, by go_num, HB.out.below Hbel.out, HK.out.trans (Keeps.of_below (Hbel.out.mono HB.out.le)), Hnext.out⟩, by simp [intOf]; omega⟩
          · have hr : (((R : Nat) : Int) != 65533) = true := by rw [bne_iff_ne]; omega
            clear hRK hR
            go_wp2_with fail
            refine (Hd.out wr HTr.out).mono ?_
            rintro r w1 ⟨rfl, hbel⟩
            have Hbel := Lib.hid hbel
            clear hbel
            go_wp2
            exact ⟨⟨p, k + K, pre, by omega, hK2, rfl, by go_num, HB.out.below Hbel.out, HK.out.trans (Keeps.of_below (Hbel.out.mono HB.out.le)), Hnext.out⟩, by simp [intOf]; omega⟩
        | true =>
          have Hnext := Lib.hid (HE.out.flush (esc_at_bad hlt (by omega) hbad))
          have hRK : R = 65533 ∧ K = 1 := by simpa [Pl.bad, hd] using hbad
          have hr : (((R : Nat) : Int) != 65533) = false := by rw [hRK.1]; rfl
          have hk1 : (((K : Nat) : Int) != 1) = false := by rw [hRK.2]; rfl
          clear hRK hbad hcons hd hc
          go_wp2_with fail
          refine (Hd.out wr HTr.out).mono ?_
          rintro r w0 ⟨rfl, hbel⟩
          have Hbel := Lib.hid hbel
          clear hbel
          have HB0 := Lib.hid (HB.out.below Hbel.out)
          go_wp2_with fail
          refine (appendString_any (s.extract p k) w0 HB0.out (by rw [HX.out]; omega)).mono ?_
          rintro r w1 ⟨rfl, hB, hK⟩
          have HB1 := Lib.hid hB
          have HK1 := Lib.hid hK
          clear hB hK
          go_wp2_with fail
          refine (appendString_any ⟨#[92, 117, 102, 102, 102, 100]⟩ w1 HB1.out (by rw [List.length_append, bts_length, HX.out]; show pre.length + (k - p) + 6 ≤ _; omega)).mono ?_
          rintro r w2 ⟨rfl, hB, hK⟩
          have HB2 := Lib.hid hB
          have HK2 := Lib.hid hK
          clear hB hK
          go_wp2
          exact ⟨⟨k + 1, k + 1, pre ++ ((bts s).drop p).take (k - p) ++ Pl.bang, by omega, by omega, by go_num, by go_num, by have := HB2.out; rw [show (s.extract p k).data.toList = _ from bts_extract s p k] at this; exact this, ((HK.out.trans (Keeps.of_below (Hbel.out.mono HB.out.le))).trans HK1.out).trans HK2.out, Hnext.out⟩, by simp [intOf]; omega⟩
    · have hke : k = s.size := by omega
      have Hend := Lib.hid HE.out
      have hx2 : (s.extract p s.size).size = k - p := by rw [← hke]; exact HX.out
      have HX2 := Lib.hid hx2
      clear hx2
      have Hke := Lib.hid hke
      clear hke
      go_wp2_with fail
      refine (appendString_any (s.extract p s.size) wr HB.out (by rw [HX2.out]; omega)).mono ?_
      rintro r w1 ⟨rfl, hB, hK⟩
      have HB1 := Lib.hid hB
      have HK1 := Lib.hid hK
      clear hB hK
      go_wp2
      go_end0
      refine ⟨rfl, ?_, HK.out.trans HK1.out⟩
      have e := HE.out
      unfold SEq at e
      have hd0 : (bts s).drop k = [] := List.drop_of_length_le (by have := bts_length s; have := Hke.out; omega)
      rw [hd0, Pl.esc_nil, List.append_nil, ← bts_extract, Hke.out] at e
      rw [← e]
      exact HB1.out
end Go.Proofs.YtchmhdmapknmfaaGreatDoor
