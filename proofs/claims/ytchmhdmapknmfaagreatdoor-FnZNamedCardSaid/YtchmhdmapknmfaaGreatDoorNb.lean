/-
  ZJoin and ZJoined: a logger's name behind Named of each name; names with periods between them. zzFits3.
-/
import Derived.Test.YtchmhdmapknmfaaGreatDoorNa
namespace Go.Proofs.YtchmhdmapknmfaaGreatDoor
open Go.RowKit

/-- All names, one behind the other. -/
def joinAll (ss : List ByteArray) : List UInt8 := ss.foldl (fun acc x => nameJ acc (bts x)) []

theorem joinAll_snoc (ss : List ByteArray) (x : ByteArray) : joinAll (ss ++ [x]) = nameJ (joinAll ss) (bts x) := by simp [joinAll]

theorem nameJ_length (l x : List UInt8) : (nameJ l x).length ≤ l.length + 1 + x.length := by
  unfold nameJ
  split
  · omega
  split
  · omega
  · simp; omega

/-- What the loop of ZJoin keeps. -/
def ZRel (ss : List ByteArray) (w : World) (l i : Value) (wr : World) : Prop :=
  ∃ (k lo : Nat) (nm : ByteArray), k ≤ ss.length ∧ l = .pointer (some ⟨lo, 0, none⟩) ∧ i = .int .i64 k ∧ Log lo nm wr ∧ lo < wr.heap.size ∧ bts nm = joinAll (ss.take k) ∧ nm.size ≤ 201 * k ∧ Below w.heap.size w wr

theorem take_get (ss : List ByteArray) (k : Nat) (h : k < ss.length) : ss.take (k + 1) = ss.take k ++ [ss[k]] := by
  rw [List.take_succ_eq_append_getElem h]

set_option maxRecDepth 100000 in
set_option maxHeartbeats 400000 in
theorem zJoin_any (bk off c : Nat) (ss : List ByteArray) (w : World) (hc : ∀ j (h : j < ss.length), w.cell? ⟨bk, off + j, none⟩ = some (.string ss[j])) (hbk : bk < w.heap.size)
    (hlen : ss.length ≤ 50) (hsz : ∀ j (h : j < ss.length), ss[j].size ≤ 200) :
    Calls Tryz.prog 26 #[.slice (some ⟨bk, off, none⟩) ss.length c] w fun r w' => ∃ nm : ByteArray, r = .returned (.string nm) ∧ bts nm = joinAll ss ∧ Below w.heap.size w w' := by
  have HC := Lib.hid hc
  have HS := Lib.hid hsz
  have Hn := Lib.hid (new_any w)
  clear hc hsz
  go_enter Tryz.func26, Tryz.ntmps26
  go_wp2_with fail
  refine Hn.out.mono ?_
  rintro r w1 ⟨rfl, hL, hb⟩
  have HL := Lib.hid hL
  have Hb := Lib.hid hb
  clear hL hb
  go_wp2_with fail
  go_loopw [3, 9] (fun l i wr => ZRel ss w l i wr) (fun _ i _ => ss.length - (intOf i).toNat)
  case atStart => exact ⟨0, w.heap.size, ⟨#[]⟩, Nat.zero_le _, rfl, rfl, HL.out, lt_of_block HL.out, rfl, by decide, Hb.out⟩
  case round =>
    obtain ⟨k, lo, nm, hk, rfl, rfl, hL, hlo, hnm, hsize, hb⟩ := hrel
    have HL1 := Lib.hid hL
    have Hb1 := Lib.hid hb
    have Hnm := Lib.hid hnm
    by_cases hlt : k < ss.length
    · have hcell : wr.cell? ⟨bk, off + k, none⟩ = some (.string ss[k]) := by rw [hb.cell (by exact hbk)]; exact HC.out k hlt
      have hs200 := HS.out k hlt
      have Hd := Lib.hid (named_any lo nm ss[k] wr hL hlo (by omega))
      clear hL hb hnm
      go_wp2_with fail
      refine Hd.out.mono ?_
      rintro r w2 ⟨l', nm', rfl, hL', hlt', -, hbt, hb'⟩
      have HL' := Lib.hid hL'
      have Hbt := Lib.hid hbt
      have Hb' := Lib.hid hb'
      clear hL' hbt hb' Hd
      go_wp2
      exact ⟨⟨k + 1, l', nm', by omega, rfl, by go_num, HL'.out, hlt', by rw [Hbt.out, Hnm.out, take_get ss k hlt, joinAll_snoc], by have h1 := nameJ_length (bts nm) (bts ss[k]); rw [← Hbt.out, bts_length, bts_length, bts_length] at h1; omega, Hb1.out.trans (Hb'.out.mono Hb1.out.size)⟩, by simp [intOf]; omega⟩
    · have hke : k = ss.length := by omega
      have Hke := Lib.hid hke
      have Hd := Lib.hid (name_any lo nm wr hL)
      clear hL hb hnm hke
      go_wp2_with fail
      refine Hd.out.mono ?_
      rintro r w2 ⟨rfl, rfl⟩
      go_wp2
      go_ret
      exact ⟨nm, rfl, by rw [Hnm.out, Hke.out, List.take_length], Hb1.out⟩

set_option maxRecDepth 100000 in
set_option maxHeartbeats 400000 in
theorem zJoin_nil (p : Option Addr) (c : Nat) (w : World) : Calls Tryz.prog 26 #[.slice p 0 c] w fun r w' => ∃ nm : ByteArray, r = .returned (.string nm) ∧ bts nm = joinAll [] ∧ Below w.heap.size w w' := by
  have Hn := Lib.hid (new_any w)
  go_enter Tryz.func26, Tryz.ntmps26
  go_wp2_with fail
  refine Hn.out.mono ?_
  rintro r w1 ⟨rfl, hL, hb⟩
  have Hb := Lib.hid hb
  have Hd := Lib.hid (name_any w.heap.size ⟨#[]⟩ w1 hL)
  clear hL hb
  go_wp2_with fail
  refine wp_loop_rounds 1 ?_
  rw [rounds_succ]
  go_wp2_with fail
  refine Hd.out.mono ?_
  rintro r w2 ⟨rfl, rfl⟩
  go_wp2
  go_ret
  exact ⟨⟨#[]⟩, rfl, rfl, Hb.out⟩

/-- What the loop of ZJoined keeps. -/
def JoRel (ss : List ByteArray) (o i : Value) : Prop :=
  ∃ (k : Nat) (nm : ByteArray), k ≤ ss.length ∧ o = .string nm ∧ i = .int .i64 k ∧ bts nm = joinAll (ss.take k) ∧ nm.size ≤ 201 * k

theorem jo_rel {ss : List ByteArray} {k : Nat} {nm x O : ByteArray} (hk : k < ss.length) (hx : ss[k] = x) (htk : ss.take (k + 1) = ss.take k ++ [ss[k]]) (hnm : bts nm = joinAll (ss.take k)) (hsize : nm.size ≤ 201 * k) (h200 : x.size ≤ 200)
    (hO : bts O = nameJ (bts nm) (bts x)) : bts O = joinAll (ss.take (k + 1)) ∧ O.size ≤ 201 * (k + 1) := by
  constructor
  · rw [htk, joinAll_snoc, hx, ← hnm, hO]
  · have h1 := nameJ_length (bts nm) (bts x)
    rw [← hO, bts_length, bts_length, bts_length] at h1
    omega

theorem bts_append (a b : ByteArray) : bts (a ++ b) = bts a ++ bts b := by simp [bts]

set_option maxRecDepth 100000 in
set_option maxHeartbeats 400000 in
theorem zJoined_any (bk off c : Nat) (ss : List ByteArray) (w : World) (hc : ∀ j (h : j < ss.length), w.cell? ⟨bk, off + j, none⟩ = some (.string ss[j]))
    (hlen : ss.length ≤ 50) (hsz : ∀ j (h : j < ss.length), ss[j].size ≤ 200) :
    Calls Tryz.prog 27 #[.slice (some ⟨bk, off, none⟩) ss.length c] w fun r w' => ∃ nm : ByteArray, r = .returned (.string nm) ∧ bts nm = joinAll ss ∧ w = w' := by
  have HC := Lib.hid hc
  have HS := Lib.hid hsz
  clear hc hsz
  go_enter Tryz.func27, Tryz.ntmps27
  go_wp2_with fail
  go_loop [3, 4] (fun o i => JoRel ss o i) (fun _ i => ss.length - (intOf i).toNat)
  case atStart => exact ⟨0, ⟨#[]⟩, Nat.zero_le _, rfl, rfl, rfl, by decide⟩
  case round =>
    obtain ⟨k, nm, hk, rfl, rfl, hnm, hsize⟩ := hrel
    have Hnm := Lib.hid hnm
    by_cases hlt : k < ss.length
    · have hcell := HC.out k hlt
      have hs200 := HS.out k hlt
      generalize hx : ss[k] = x at hcell hs200
      have Hx := Lib.hid hx
      have htk := Lib.hid (take_get ss k hlt)
      clear hx
      by_cases h1 : bts nm = []
      · have f1 : nm.toList.isEmpty = true := by rw [toList_bts, h1]; rfl
        have H1 := Lib.hid h1
        clear h1 hnm
        go_wp2
        have Hj := jo_rel hlt Hx.out htk.out Hnm.out hsize hs200 (O := nm ++ x) (by rw [bts_append, H1.out]; unfold nameJ; split <;> simp_all)
        exact ⟨⟨k + 1, _, by omega, rfl, by go_num, Hj.1, Hj.2⟩, by simp [intOf]; omega⟩
      · have f1 := ne_empty h1
        have H1 := Lib.hid h1
        clear h1 hnm
        by_cases h2 : bts x = []
        · have f2 : x.toList.isEmpty = true := by rw [toList_bts, h2]; rfl
          have H2 := Lib.hid h2
          clear h2
          go_wp2
          have Hj := jo_rel hlt Hx.out htk.out Hnm.out hsize hs200 (O := nm ++ x) (by rw [bts_append, H2.out]; unfold nameJ; rw [if_pos rfl]; simp)
          exact ⟨⟨k + 1, _, by omega, rfl, by go_num, Hj.1, Hj.2⟩, by simp [intOf]; omega⟩
        · have f2 := ne_empty h2
          have H2 := Lib.hid h2
          clear h2
          go_wp2
          have Hj := jo_rel hlt Hx.out htk.out Hnm.out hsize hs200 (O := nm ++ ⟨#[46]⟩ ++ x) (by rw [bts_append, bts_append]; unfold nameJ; rw [if_neg H2.out, if_neg H1.out, List.append_assoc]; rfl)
          exact ⟨⟨k + 1, _, by omega, rfl, by go_num, Hj.1, Hj.2⟩, by simp [intOf]; omega⟩
    · have hke : k = ss.length := by omega
      have Hke := Lib.hid hke
      clear hnm hke
      go_wp2
      go_ret
      exact ⟨nm, rfl, by rw [Hnm.out, Hke.out, List.take_length], rfl⟩

set_option maxRecDepth 100000 in
set_option maxHeartbeats 400000 in
theorem zJoined_nil (p : Option Addr) (c : Nat) (w : World) : Calls Tryz.prog 27 #[.slice p 0 c] w fun r w' => ∃ nm : ByteArray, r = .returned (.string nm) ∧ bts nm = joinAll [] ∧ w = w' := by
  go_enter Tryz.func27, Tryz.ntmps27
  go_wp2_with fail
  refine wp_loop_rounds 1 ?_
  rw [rounds_succ]
  go_wp2
  go_ret
  exact ⟨⟨#[]⟩, rfl, rfl, rfl⟩

/-- Does a list of texts hold nothing too long? -/
def fitsB (ss : List ByteArray) : Bool := ss.length ≤ 2147483647 && ss.all fun x => x.size ≤ 2147483647

/-- What the loop of zzFits3 keeps. -/
def FRel (ss : List ByteArray) (i : Value) : Prop := ∃ k : Nat, k ≤ ss.length ∧ i = .int .i64 k ∧ (ss.take k).all (fun x => x.size ≤ 2147483647) = true

set_option maxRecDepth 100000 in
set_option maxHeartbeats 400000 in
theorem fits3_any (bk off c : Nat) (ss : List ByteArray) (w : World) (hc : ∀ j (h : j < ss.length), w.cell? ⟨bk, off + j, none⟩ = some (.string ss[j])) (hlen : ss.length ≤ 9223372036854775807)
    (hsz : ∀ j (h : j < ss.length), ss[j].size ≤ 9223372036854775807) :
    Calls Tryz.prog 25 #[.slice (some ⟨bk, off, none⟩) ss.length c] w fun r w' => r = .returned (.bool (fitsB ss)) ∧ w = w' := by
  have HC := Lib.hid hc
  have HS := Lib.hid hsz
  clear hc hsz
  by_cases h0 : ss.length ≤ 2147483647
  · have h0' : (ss.length : Int) ≤ 2147483647 := by omega
    go_enter Tryz.func25, Tryz.ntmps25
    go_wp2_with fail
    go_loop [10] (fun i => FRel ss i) (fun i => ss.length - (intOf i).toNat)
    case atStart => exact ⟨0, Nat.zero_le _, rfl, rfl⟩
    case round =>
      obtain ⟨k, hk, rfl, hall⟩ := hrel
      have Hall := Lib.hid hall
      by_cases hlt : k < ss.length
      · have hcell := HC.out k hlt
        have hs200 := HS.out k hlt
        generalize hx : ss[k] = x at hcell hs200
        have Hx := Lib.hid hx
        have htk := Lib.hid (take_get ss k hlt)
        clear hx hall
        by_cases h1 : x.size ≤ 2147483647
        · have h1' : (x.size : Int) ≤ 2147483647 := by omega
          go_wp2
          exact ⟨⟨k + 1, by omega, by go_num, by rw [htk.out, List.all_append, Hall.out, Hx.out]; simp [h1]⟩, by simp [intOf]; omega⟩
        · have h1' : 2147483647 < (x.size : Int) := by omega
          go_wp2
          go_ret
          refine ⟨?_, rfl⟩
          have : fitsB ss = false := by
            unfold fitsB
            rw [Bool.and_eq_false_iff]
            right
            rw [List.all_eq_false]
            exact ⟨ss[k], List.getElem_mem _, by rw [Hx.out]; simpa using h1⟩
          rw [this]; try rfl
      · have hke : k = ss.length := by omega
        have Hke := Lib.hid hke
        clear hke hall
        go_wp2
        go_ret
        refine ⟨?_, rfl⟩
        have : fitsB ss = true := by
          unfold fitsB
          have := Hall.out
          rw [Hke.out, List.take_length] at this
          rw [this]; simp [h0]
        rw [this]; try rfl
  · have h0' : 2147483647 < (ss.length : Int) := by omega
    go_enter Tryz.func25, Tryz.ntmps25
    go_wp2
    go_ret
    refine ⟨?_, rfl⟩
    have : fitsB ss = false := by unfold fitsB; simp [h0]
    rw [this]; try rfl

set_option maxRecDepth 100000 in
set_option maxHeartbeats 400000 in
theorem fits3_nil (p : Option Addr) (c : Nat) (w : World) : Calls Tryz.prog 25 #[.slice p 0 c] w fun r w' => r = .returned (.bool true) ∧ w = w' := by
  go_enter Tryz.func25, Tryz.ntmps25
  go_wp2_with fail
  refine wp_loop_rounds 1 ?_
  rw [rounds_succ]
  go_wp2
  go_ret
  exact ⟨rfl, rfl⟩
end Go.Proofs.YtchmhdmapknmfaaGreatDoor
