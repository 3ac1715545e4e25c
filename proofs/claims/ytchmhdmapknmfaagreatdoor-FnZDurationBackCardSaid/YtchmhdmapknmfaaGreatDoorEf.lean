/-
  FnZDurationBack: for every duration the law answers true.
-/
import Derived.Test.YtchmhdmapknmfaaGreatDoorEi
import Derived.Test.YtchmhdmapknmfaaGreatDoorEk
namespace Go.Proofs.YtchmhdmapknmfaaGreatDoor
open Go.RowKit

theorem isD_fine {c : UInt8} (h1 : 48 ≤ c.toNat) (h2 : c.toNat ≤ 57) : isD c = true := by
  unfold isD
  simp
  omega

theorem dl_digit (v : Nat) (out : List UInt8) (h : v ≠ 0) : ∃ c l, dl v out = c :: l ∧ isD c = true := by
  induction v using Nat.strongRecOn generalizing out with
  | _ v ih =>
    rw [dl_step (by omega)]
    by_cases hz : v / 10 = 0
    · rw [hz, dl_zero]
      exact ⟨_, _, rfl, dg_isD v⟩
    · exact ih (v / 10) (by omega) _ hz

theorem dn_digit (v : Nat) (out : List UInt8) : ∃ c l, dn v out = c :: l ∧ isD c = true := by
  unfold dn
  split
  · exact ⟨_, _, rfl, by decide⟩
  · rename_i h
    exact dl_digit v out h

theorem du_digit (u : Nat) : ∃ c l, du u = c :: l ∧ isD c = true := by
  unfold du
  repeat' split
  all_goals first | exact dn_digit _ _ | exact ⟨_, _, rfl, by decide⟩

/-- ZSum of a duration's text is the duration. -/
theorem zSum_any {s : ByteArray} {d : Int} (w : World) (h : bts s = dt d) (h0 : -9223372036854775808 ≤ d) (h1 : d ≤ 9223372036854775807) : Calls Tryz.prog 15 #[.string s] w (SumPost d w) := by
  have hl : s.size ≤ 1000 := by
    have := dt_length d h0 h1
    rw [← h, bts_length] at this
    omega
  unfold dt at h
  by_cases hn : d < 0
  · rw [if_pos hn] at h
    have := zSum_neg (u := d.natAbs) w hl (by omega) h (du_pts _)
    rw [show -((d.natAbs : Nat) : Int) = d by omega] at this
    exact this
  · rw [if_neg hn] at h
    have := zSum_pos (u := d.natAbs) w hl (by omega) (by rw [h]; exact du_pts _) (by rw [h]; exact du_digit _)
    rw [show ((d.natAbs : Nat) : Int) = d by omega] at this
    exact this

set_option maxRecDepth 100000 in
set_option maxHeartbeats 1000000 in
theorem durationBack_law (d : Int) (w : World) (hT : Lib.Utf8Tabs 1 2 w) (hH : 11 ≤ w.heap.size) (h0 : -9223372036854775808 ≤ d) (h1 : d ≤ 9223372036854775807) :
    Calls Tryz.prog 3 #[.int .i64 d] w fun r w' => r = .returned (.bool true) ∧ Below w.heap.size w w' := by
  have hbt : bts ⟨(qt (dt d)).toArray⟩ = qt (dt d) := by simp [bts]
  have hbs : bts ⟨(dt d).toArray⟩ = dt d := by simp [bts]
  have hlen := dt_length d h0 h1
  have hsz : (⟨(qt (dt d)).toArray⟩ : ByteArray).size ≤ 1000000 := by
    rw [← bts_length, hbt]
    simp [qt]
    omega
  have Hd := Lib.hid (durationText_4 d w hT hH h0 h1)
  have HT := Lib.hid hT
  have Hj := Lib.hid (fun (W : World) (hb : Below w.heap.size w W) => jRead_text W (utf8Tabs_below HT.out hb hH) (by have := hb.size; omega) hsz hbt (dt_clean d))
  have Hs := Lib.hid (fun (W : World) => zSum_any W hbs h0 h1)
  clear hT h0 h1 hbt hbs hlen hsz
  go_enter Tryz.func3, Tryz.ntmps3
  go_wp2_with fail
  refine Hd.out.mono ?_
  rintro r w1 ⟨rfl, hb⟩
  have Hb1 := Lib.hid hb
  clear hb
  go_wp2_with fail
  refine (Hj.out _ Hb1.out).mono ?_
  rintro r w2 ⟨rfl, hb⟩
  have Hb2 := Lib.hid (Hb1.out.trans (hb.mono Hb1.out.size))
  clear hb
  go_wp2_with fail
  unfold SumPost at Hs
  refine (Hs.out _).mono ?_
  rintro r w3 ⟨rfl, hb⟩
  have Hb3 := Lib.hid ((Hb2.out.alloc Hb2.out.size (.cells #[.int .i64 4, .string ⟨(dt d).toArray⟩, .slice none 0 0, .slice none 0 0] 25)).trans (hb.mono (by have := Hb2.out.size; simp; omega)))
  clear hb
  go_wp2
  go_ret
  exact ⟨rfl, Hb3.out⟩
end Go.Proofs.YtchmhdmapknmfaaGreatDoor
