/-
  The law FnZSafe: it answers true at every text.
-/
import Derived.Test.YtchmhdmapknmfaaGreatDoorBo
import Derived.Test.YtchmhdmapknmfaaGreatDoorBl
namespace Go.Proofs.YtchmhdmapknmfaaGreatDoor
open Go.RowKit

set_option maxRecDepth 100000 in
set_option maxHeartbeats 400000 in
theorem safe_huge (s : ByteArray) (w : World) (hs : s.size ≤ 9223372036854775807) (h : 2147483647 < s.size) :
    Calls Tryz.prog 5 #[.string s] w fun r w' => r = .returned (.bool true) ∧ Below w.heap.size w w' := by
  go_enter Tryz.func5, Tryz.ntmps5
  go_wp2
  go_ret
  exact ⟨rfl, Below.refl _ _⟩

set_option maxRecDepth 100000 in
set_option maxHeartbeats 400000 in
theorem safe_large (s : ByteArray) (w : World) (hp : Pow w) (hH : 11 ≤ w.heap.size) (h : 2000 < s.size) (h2 : s.size ≤ 2147483647) :
    Calls Tryz.prog 5 #[.string s] w fun r w' => r = .returned (.bool true) ∧ Below w.heap.size w w' := by
  have Ha := Lib.hid (awake w hp hH)
  clear hp
  go_enter Tryz.func5, Tryz.ntmps5
  go_wp2_with fail
  refine Ha.out.mono ?_
  rintro r w' ⟨rfl, hb⟩
  have Hb := Lib.hid hb
  clear hb
  go_wp2
  go_ret
  exact ⟨rfl, Hb.out⟩

theorem Sc_step {s : ByteArray} {k : Nat} (hk : k < s.size) (h : Pl.Sc ((bts s).drop k)) : (32 ≤ s[k].toNat ∧ s[k] ≠ 34 ∧ s[k] ≠ 92 ∧ Pl.Sc ((bts s).drop (k + 1))) ∨ (s[k] = 92 ∧ Pl.Sc ((bts s).drop (k + 2))) := by
  rw [bts_drop s k hk] at h
  generalize hc : s[k] = c at h
  cases h with
  | one _ _ h1 h2 h3 h4 => exact .inl ⟨h1, h2, h3, h4⟩
  | two _ h1 => exact .inr ⟨rfl, by rw [List.drop_drop] at h1; exact h1⟩

/-- What the loop of the law keeps. -/
def CRel (o : ByteArray) (i : Value) : Prop := ∃ k : Nat, k ≤ o.size + 1 ∧ i = .int .i64 k ∧ Pl.Sc ((bts o).drop k)

theorem esc_a : Pl.esc [97] = [97] := by decide

set_option maxRecDepth 100000 in
set_option maxHeartbeats 1000000 in
theorem safe_small (s : ByteArray) (w : World) (hT : Lib.Utf8Tabs 1 2 w) (hH : 11 ≤ w.heap.size) (h : s.size ≤ 2000) :
    Calls Tryz.prog 5 #[.string s] w fun r w' => r = .returned (.bool true) ∧ Below w.heap.size w w' := by
  have HT := Lib.hid hT
  have Hz := Lib.hid (zEscape_any s w hT hH (by omega))
  have hlen := Pl.esc_length (bts s)
  have hbl := bts_length s
  obtain ⟨o, ho⟩ : ∃ o : ByteArray, o = ⟨(Pl.esc (bts s)).toArray⟩ := ⟨_, rfl⟩
  have hbo : bts o = Pl.esc (bts s) := by rw [ho]
  have hob := bts_length o
  rw [← ho] at Hz
  rw [← hbo, hob, hbl] at hlen
  have hl1 : (s.size : Int) ≤ (o.size : Int) := by omega
  have hl2 : (o.size : Int) ≤ 6 * (s.size : Int) := by omega
  have hSc := Lib.hid (Pl.esc_scan (bts s))
  have hV := Lib.hid (Pl.esc_valid (bts s))
  rw [← hbo] at hSc hV
  clear hT hlen hbl ho hbo hob
  go_enter Tryz.func5, Tryz.ntmps5
  go_wp2_with fail
  refine Hz.out.mono ?_
  rintro r w1 ⟨rfl, hb⟩
  have Hb := Lib.hid hb
  have Hj := Lib.hid (jTrue8_valid o w1 (utf8Tabs_below HT.out hb hH) (by have := hb.size; omega) (by omega) hV.out)
  clear hb Hz
  go_wp2_with fail
  go_loop [4] (fun i => CRel o i) (fun i => o.size + 1 - (intOf i).toNat)
  case atStart => exact ⟨0, Nat.zero_le _, rfl, hSc.out⟩
  case round =>
    obtain ⟨k, hk, rfl, hsc⟩ := hrel
    by_cases hlt : k < o.size
    · rcases Sc_step hlt hsc with ⟨h1, h2, h3, h4⟩ | ⟨h1, h2⟩
      · have H4 := Lib.hid h4
        have f1 : (32 : Int) ≤ (o[k].toNat : Int) := by omega
        have f2 : ((o[k].toNat : Int) == 34) = false := by rw [beq_eq_false_iff_ne]; intro e; exact h2 (UInt8.toNat_inj.1 (by simpa using (by omega : o[k].toNat = 34)))
        have f3 : ((o[k].toNat : Int) == 92) = false := by rw [beq_eq_false_iff_ne]; intro e; exact h3 (UInt8.toNat_inj.1 (by simpa using (by omega : o[k].toNat = 92)))
        clear h1 h2 h3 h4 hsc
        go_wp2
        exact ⟨⟨k + 1, by omega, by go_num, H4.out⟩, by simp [intOf]; omega⟩
      · have H4 := Lib.hid h2
        have f1 : (32 : Int) ≤ (o[k].toNat : Int) := by rw [h1]; decide
        have f2 : ((o[k].toNat : Int) == 34) = false := by rw [h1]; rfl
        have f3 : ((o[k].toNat : Int) == 92) = true := by rw [h1]; rfl
        clear h1 h2 hsc
        go_wp2
        exact ⟨⟨k + 2, by omega, by go_num, H4.out⟩, by simp [intOf]; omega⟩
    · clear hsc
      go_wp2_with fail
      refine Hj.out.mono ?_
      rintro r w2 ⟨rfl, hb⟩
      have hbw := Hb.out.trans (hb.mono Hb.out.size)
      have Hb2 := Lib.hid hbw
      have Ha := Lib.hid (zEscape_any ⟨#[97]⟩ w2 (utf8Tabs_below HT.out hbw hH) (by have := hbw.size; omega) (by decide))
      have ea : bts ⟨#[97]⟩ = [97] := rfl
      rw [ea, esc_a] at Ha
      clear hb hbw Hj ea
      go_wp2_with fail
      refine Ha.out.mono ?_
      rintro r w3 ⟨rfl, hb⟩
      have Hb3 := Lib.hid (Hb2.out.trans (hb.mono Hb2.out.size))
      clear hb Ha
      go_wp2
      go_ret
      exact ⟨rfl, Hb3.out⟩
end Go.Proofs.YtchmhdmapknmfaaGreatDoor
