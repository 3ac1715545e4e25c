/-
  The law FnZNamed: it answers true at every list of texts.
-/
import Derived.Test.YtchmhdmapknmfaaGreatDoorNb
import Derived.Test.YtchmhdmapknmfaaGreatDoorBl
namespace Go.Proofs.YtchmhdmapknmfaaGreatDoor
open Go.RowKit

theorem bts_inj {a b : ByteArray} (h : bts a = bts b) : a = b := by
  cases a with | mk a => cases b with | mk b =>
  simp only [bts] at h
  congr 1
  exact Array.toList_inj.1 h

theorem cells2 {w : World} {e : Nat} {v0 v1 : Value} {t : TypeId} {s : Nat × Nat} (h : w.heap[e]? = some (.cells #[v0, v1] t s)) : w.cell? ⟨e, 0, none⟩ = some v0 ∧ w.cell? ⟨e, 1, none⟩ = some v1 := by
  simp [World.cell?, h]

/-- ZJoin at a list of two, laid by the law itself. -/
theorem zJoin_ab (w : World) (ty : TypeId) (s : Nat × Nat) :
    Calls Tryz.prog 26 #[.slice (some ⟨w.heap.size, 0, none⟩) 2 2] (w.alloc (.cells #[.string ⟨#[97]⟩, .string ⟨#[98]⟩] ty s)) fun r w' => r = .returned (.string ⟨#[97, 46, 98]⟩) ∧ Below w.heap.size w w' := by
  have hnew := heap_new w (.cells #[.string ⟨#[97]⟩, .string ⟨#[98]⟩] ty s)
  have hal := (Below.refl w.heap.size w).alloc (Nat.le_refl _) (.cells #[.string ⟨#[97]⟩, .string ⟨#[98]⟩] ty s)
  refine (zJoin_any w.heap.size 0 2 [⟨#[97]⟩, ⟨#[98]⟩] (w.alloc (.cells #[.string ⟨#[97]⟩, .string ⟨#[98]⟩] ty s)) ?_ (lt_of_block hnew) (by decide) ?_).mono ?_
  · intro j h
    match j, h with
    | 0, _ => exact (cells2 hnew).1
    | 1, _ => exact (cells2 hnew).2
  · intro j h
    match j, h with
    | 0, _ => exact (by decide : ByteArray.size ⟨#[97]⟩ ≤ 200)
    | 1, _ => exact (by decide : ByteArray.size ⟨#[98]⟩ ≤ 200)
  · rintro r w' ⟨nm, rfl, hnm, hb⟩
    refine ⟨?_, hal.trans (hb.mono hal.size)⟩
    have : nm = ⟨#[97, 46, 98]⟩ := bts_inj (hnm.trans (by decide))
    rw [this]

/-- What the law's own loop keeps. -/
def LRel (ss : List ByteArray) (i : Value) : Prop := ∃ k : Nat, k ≤ ss.length ∧ i = .int .i64 k ∧ ∀ j (h : j < ss.length), j < k → ss[j].size ≤ 200

set_option maxRecDepth 100000 in
set_option maxHeartbeats 400000 in
theorem named_nil (p : Option Addr) (c : Nat) (w : World) : Calls Tryz.prog 9 #[.slice p 0 c] w fun r w' => r = .returned (.bool true) ∧ Below w.heap.size w w' := by
  have Hf := Lib.hid (fits3_nil p c w)
  have Hj := Lib.hid (zJoin_nil p c w)
  have Hd := Lib.hid (fun w => zJoined_nil p c w)
  have Hab := Lib.hid zJoin_ab
  go_enter Tryz.func9, Tryz.ntmps9
  go_wp2_with fail
  refine Hf.out.mono ?_
  rintro r w1 ⟨rfl, rfl⟩
  go_wp2_with fail
  refine wp_loop_rounds 1 ?_
  rw [rounds_succ]
  go_wp2_with fail
  refine Hj.out.mono ?_
  rintro r w1 ⟨nm, rfl, hnm, hb⟩
  have Hb := Lib.hid hb
  have Hnm := Lib.hid hnm
  clear hb hnm
  go_wp2_with fail
  refine (Hd.out w1).mono ?_
  rintro r w2 ⟨nm2, rfl, hnm, rfl⟩
  obtain rfl := bts_inj (hnm.trans Hnm.out.symm)
  clear hnm Hd
  go_wp2_with fail
  refine (Hab.out w1 _ _).mono ?_
  rintro r w2 ⟨rfl, hb⟩
  have Hb2 := Lib.hid (Hb.out.trans (hb.mono Hb.out.size))
  clear hb
  go_wp2
  go_ret
  exact ⟨rfl, Hb2.out⟩

set_option maxRecDepth 100000 in
set_option maxHeartbeats 1000000 in
theorem named_law (bk off c : Nat) (ss : List ByteArray) (w : World) (hc : ∀ j (h : j < ss.length), w.cell? ⟨bk, off + j, none⟩ = some (.string ss[j])) (hlen : ss.length ≤ 9223372036854775807)
    (hsz : ∀ j (h : j < ss.length), ss[j].size ≤ 9223372036854775807) (hbk : bk < w.heap.size) (hp : Pow w) (hH : 11 ≤ w.heap.size) :
    Calls Tryz.prog 9 #[.slice (some ⟨bk, off, none⟩) ss.length c] w fun r w' => r = .returned (.bool true) ∧ Below w.heap.size w w' := by
  have Hf := Lib.hid (fits3_any bk off c ss w hc hlen hsz)
  have Hc := Lib.hid hc
  have Hs := Lib.hid hsz
  have Ha := Lib.hid (awake w hp hH)
  have Hab := Lib.hid zJoin_ab
  clear hc hsz hp
  by_cases hF : ¬ fitsB ss = true
  · have hF' : fitsB ss = false := by simpa using hF
    rw [hF'] at Hf
    clear hF hF'
    go_enter Tryz.func9, Tryz.ntmps9
    go_wp2_with fail
    refine Hf.out.mono ?_
    rintro r w1 ⟨rfl, rfl⟩
    go_wp2
    go_ret
    exact ⟨rfl, Below.refl _ _⟩
  rw [Decidable.not_not.1 hF] at Hf
  have HF := Lib.hid hF
  clear hF
  by_cases hn50 : ¬ ss.length ≤ 50
  · have h50' : 50 < (ss.length : Int) := by omega
    go_enter Tryz.func9, Tryz.ntmps9
    go_wp2_with fail
    refine Hf.out.mono ?_
    rintro r w1 ⟨rfl, rfl⟩
    go_wp2_with fail
    refine Ha.out.mono ?_
    rintro r w1 ⟨rfl, hb⟩
    have Hb := Lib.hid hb
    clear hb
    go_wp2
    go_ret
    exact ⟨rfl, Hb.out⟩
  have h50 : ss.length ≤ 50 := Decidable.not_not.1 hn50
  clear hn50
  have h50' : (ss.length : Int) ≤ 50 := by omega
  go_enter Tryz.func9, Tryz.ntmps9
  go_wp2_with fail
  refine Hf.out.mono ?_
  rintro r w1 ⟨rfl, rfl⟩
  go_wp2_with fail
  go_loop [3] (fun i => LRel ss i) (fun i => ss.length - (intOf i).toNat)
  case atStart => exact ⟨0, Nat.zero_le _, rfl, fun j _ h => by omega⟩
  case round =>
    obtain ⟨k, hk, rfl, hall⟩ := hrel
    have Hall := Lib.hid hall
    clear hall
    by_cases hlt : k < ss.length
    · have hcell := Hc.out k hlt
      have hs63 := Hs.out k hlt
      generalize hx : ss[k] = x at hcell hs63
      have Hx := Lib.hid hx
      clear hx
      by_cases h1 : x.size ≤ 200
      · have h1' : (x.size : Int) ≤ 200 := by omega
        go_wp2
        refine ⟨⟨k + 1, by omega, by go_num, fun j h hj => ?_⟩, by simp [intOf]; omega⟩
        rcases Nat.lt_succ_iff_lt_or_eq.1 hj with h' | rfl
        · exact Hall.out j h h'
        · rw [Hx.out]; exact h1
      · have h1' : 200 < (x.size : Int) := by omega
        go_wp2_with fail
        refine Ha.out.mono ?_
        rintro r w1 ⟨rfl, hb⟩
        have Hb := Lib.hid hb
        clear hb
        go_wp2
        go_ret
        exact ⟨rfl, Hb.out⟩
    · have hke : k = ss.length := by omega
      have hsm : ∀ j (h : j < ss.length), ss[j].size ≤ 200 := fun j h => Hall.out j h (by omega)
      have Hj := Lib.hid (zJoin_any bk off c ss w Hc.out hbk h50 hsm)
      have Hd := Lib.hid (fun w1 (hb : Below w.heap.size w w1) => zJoined_any bk off c ss w1 (fun j h => by rw [hb.cell (by exact hbk)]; exact Hc.out j h) h50 hsm)
      clear hsm Hall Ha Hf
      go_wp2_with fail
      refine Hj.out.mono ?_
      rintro r w1 ⟨nm, rfl, hnm, hb⟩
      have Hb := Lib.hid hb
      have Hnm := Lib.hid hnm
      clear hb hnm Hj
      go_wp2_with fail
      refine (Hd.out w1 Hb.out).mono ?_
      rintro r w2 ⟨nm2, rfl, hnm, rfl⟩
      obtain rfl := bts_inj (hnm.trans Hnm.out.symm)
      clear hnm Hd
      go_wp2_with fail
      refine (Hab.out w1 _ _).mono ?_
      rintro r w2 ⟨rfl, hb⟩
      have Hb2 := Lib.hid (Hb.out.trans (hb.mono Hb.out.size))
      clear hb
      go_wp2
      go_ret
      exact ⟨rfl, Hb2.out⟩
end Go.Proofs.YtchmhdmapknmfaaGreatDoor
