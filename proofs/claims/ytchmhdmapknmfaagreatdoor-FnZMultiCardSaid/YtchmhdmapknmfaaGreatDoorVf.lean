/-
  FnZMulti: for every list of writers and every text the law answers true.
-/
import Derived.Test.YtchmhdmapknmfaaGreatDoorVe
import Derived.Test.YtchmhdmapknmfaaGreatDoorBl
namespace Go.Proofs.YtchmhdmapknmfaaGreatDoor
open Go.RowKit

set_option maxRecDepth 100000 in
set_option maxHeartbeats 1000000 in
theorem multi_big1 (p : Option Addr) (n cap : Nat) (t : ByteArray) (w : World) (h : 2147483647 < n) : Calls Tryz.prog 10 #[.slice p n cap, .string t] w fun r w' => r = .returned (.bool true) ∧ Below w.heap.size w w' := by
  have h1 : (2147483647 : Int) < (n : Int) := by omega
  clear h
  go_enter Tryz.func10, Tryz.ntmps10
  go_wp2
  go_ret
  exact ⟨rfl, Below.refl _ _⟩

set_option maxRecDepth 100000 in
set_option maxHeartbeats 1000000 in
theorem multi_big2 (p : Option Addr) (n cap : Nat) (t : ByteArray) (w : World) (h0 : n ≤ 2147483647) (h : 2147483647 < t.size) : Calls Tryz.prog 10 #[.slice p n cap, .string t] w fun r w' => r = .returned (.bool true) ∧ Below w.heap.size w w' := by
  have h1 : (2147483647 : Int) < (t.size : Int) := by omega
  have h2 : (n : Int) ≤ 2147483647 := by omega
  clear h h0
  go_enter Tryz.func10, Tryz.ntmps10
  go_wp2
  go_ret
  exact ⟨rfl, Below.refl _ _⟩

set_option maxRecDepth 100000 in
set_option maxHeartbeats 1000000 in
theorem multi_awake1 (p : Option Addr) (n cap : Nat) (t : ByteArray) (w : World) (hp : Pow w) (hH : 11 ≤ w.heap.size) (h0 : n ≤ 2147483647) (h1 : t.size ≤ 2147483647) (h : 20 < n) : Calls Tryz.prog 10 #[.slice p n cap, .string t] w fun r w' => r = .returned (.bool true) ∧ Below w.heap.size w w' := by
  have Ha := Lib.hid (awake w hp hH)
  have h2 : (n : Int) ≤ 2147483647 := by omega
  have h3 : (t.size : Int) ≤ 2147483647 := by omega
  have h4 : (20 : Int) < (n : Int) := by omega
  clear h h0 h1 hp hH
  go_enter Tryz.func10, Tryz.ntmps10
  go_wp2_with fail
  go_at_call 17
  refine Ha.out.mono ?_
  rintro r w1 ⟨rfl, hb⟩
  have Hb := Lib.hid hb
  clear hb
  go_wp2
  go_ret
  exact ⟨rfl, Hb.out⟩

set_option maxRecDepth 100000 in
set_option maxHeartbeats 1000000 in
theorem multi_awake2 (p : Option Addr) (n cap : Nat) (t : ByteArray) (w : World) (hp : Pow w) (hH : 11 ≤ w.heap.size) (h0 : n ≤ 20) (h1 : t.size ≤ 2147483647) (h : 2000 < t.size) : Calls Tryz.prog 10 #[.slice p n cap, .string t] w fun r w' => r = .returned (.bool true) ∧ Below w.heap.size w w' := by
  have Ha := Lib.hid (awake w hp hH)
  have h2 : (n : Int) ≤ 20 := by omega
  have h3 : (t.size : Int) ≤ 2147483647 := by omega
  have h4 : (2000 : Int) < (t.size : Int) := by omega
  clear h h0 h1 hp hH
  go_enter Tryz.func10, Tryz.ntmps10
  go_wp2_with fail
  go_at_call 17
  refine Ha.out.mono ?_
  rintro r w1 ⟨rfl, hb⟩
  have Hb := Lib.hid hb
  clear hb
  go_wp2
  go_ret
  exact ⟨rfl, Hb.out⟩

/-- What the loop over the writers keeps: those that were looked at take from 0 bytes on. -/
def MlkRel (L : List (Int × Bool)) (v5 : Value) : Prop := ∃ k : Nat, v5 = .int .i64 (k : Int) ∧ k ≤ L.length ∧ ∀ j (h : j < L.length), j < k → 0 ≤ L[j].1

set_option maxRecDepth 100000 in
set_option maxHeartbeats 4000000 in
theorem multi_main (v : Value) (L : List (Int × Bool)) (t : ByteArray) (w : World) (hp : Pow w) (hH : 11 ≤ w.heap.size) (h : TkArr v L w) (hL : L.length ≤ 20) (ht : t.size ≤ 2000) :
    Calls Tryz.prog 10 #[v, .string t] w fun r w' => r = .returned (.bool true) ∧ Below w.heap.size w w' := by
  have Ha := Lib.hid (fun W (hb : Below w.heap.size w W) => awake W (hp.belowB hb hH) (Nat.le_trans hH hb.size))
  have hv : ∃ p cap, v = .slice p L.length cap := by
    rcases h with ⟨rfl, p, cap, rfl⟩ | ⟨b, off, cap, rfl, -, -⟩
    · exact ⟨p, cap, rfl⟩
    · exact ⟨_, cap, rfl⟩
  obtain ⟨pv, capv, rfl⟩ := hv
  have HA := Lib.hid (And.intro h (And.intro hL ht))
  have h2 : (L.length : Int) ≤ 20 := by omega
  have h3 : (t.size : Int) ≤ 2000 := by omega
  clear hp hH h hL ht
  go_enter Tryz.func10, Tryz.ntmps10
  go_wp2_with fail
  go_loop [5] (fun v5 => MlkRel L v5) (fun v5 => L.length - (intOf v5).toNat)
  case atStart => exact ⟨0, rfl, Nat.zero_le _, fun j _ h => absurd h (Nat.not_lt_zero j)⟩
  case round =>
    obtain ⟨k, rfl, hk, hall⟩ := hrel
    by_cases hlt : k < L.length
    · rcases HA.out.1 with ⟨hnil, -⟩ | ⟨b, off, cap, hv, hb, hc⟩
      · rw [hnil] at hlt; simp at hlt
      · obtain ⟨rfl, -⟩ : pv = some ⟨b, off, none⟩ ∧ capv = cap := by simpa using hv
        obtain ⟨c0, -⟩ := hc k hlt
        obtain ⟨m, hm⟩ : ∃ m, m = L[k].1 := ⟨_, rfl⟩
        rw [← hm] at c0
        have hkI : (k : Int) < (L.length : Int) := by omega
        have HS := Lib.hid (And.intro hall (And.intro hm hlt))
        clear hall hm hc hb hv
        by_cases hm0 : m < 0
        · go_wp2_with fail
          go_at_call 17
          refine (Ha.out _ (Below.refl _ _)).mono ?_
          rintro r w1 ⟨rfl, hb⟩
          have Hb := Lib.hid hb
          clear hb
          go_wp2
          go_ret
          exact ⟨rfl, Hb.out⟩
        · have hm1 : 0 ≤ m := by omega
          clear hm0
          have HM := Lib.hid hm1
          go_wp2
          refine ⟨⟨k + 1, by go_num, hlt, fun j hj hjk => ?_⟩, by simp [intOf]; omega⟩
          by_cases e : j < k
          · exact HS.out.1 j hj e
          · have e2 : j = k := by omega
            subst e2
            rw [← HS.out.2.1]
            exact HM.out
    · have hge : (L.length : Int) ≤ (k : Int) := by omega
      have h0 : ∀ x ∈ L, 0 ≤ x.1 := by
        intro x hx
        obtain ⟨j, hj, rfl⟩ := List.getElem_of_mem hx
        exact hall j hj (by omega)
      have Hz := Lib.hid (zMulti_any (.slice pv L.length capv) L t w HA.out.1 HA.out.2.1 h0 HA.out.2.2)
      have Ht := Lib.hid (fun W (hb : Below w.heap.size w W) => taken_any (.slice pv L.length capv) L t W (HA.out.1.below hb) HA.out.2.1 h0 HA.out.2.2)
      clear hall h0 hlt hk
      go_wp2_with fail
      go_at_call 28
      refine Hz.out.mono ?_
      rintro r w1 ⟨n, e, vo, rfl, hn, he, ho, hb⟩
      have HZ := Lib.hid (And.intro hn (And.intro he (And.intro ho hb)))
      clear hn he ho hb
      go_wp2_with fail
      go_at_call 29
      refine (Ht.out _ HZ.out.2.2.2).mono ?_
      rintro r w' ⟨n2, e2, rfl, hn2, he2, rfl⟩
      obtain rfl : n2 = n := by rw [hn2, HZ.out.1]
      obtain rfl : e2 = e := by rw [he2, HZ.out.2.1]
      obtain ⟨po, co, hvo⟩ := slice_of_own HZ.out.2.2.1
      clear hn2 he2
      subst hvo
      go_wp2_with fail
      go_loop [11] (fun v11 => ∃ j : Nat, v11 = .int .i64 (j : Int) ∧ j ≤ L.length) (fun v11 => L.length - (intOf v11).toNat)
      case atStart => exact ⟨0, rfl, Nat.zero_le _⟩
      case round =>
        obtain ⟨j, rfl, hj⟩ := hrel
        by_cases hjl : j < L.length
        · have hjI : (j : Int) < (L.length : Int) := by omega
          have hcl : ∃ gl, po = some ⟨gl, 0, none⟩ := by
            obtain ⟨_, ⟨h1, h2⟩ | ⟨g, cap, cur, h1, _⟩⟩ := HZ.out.2.2.1
            · omega
            · simp at h1
              exact ⟨g, h1.1⟩
          obtain ⟨gl, rfl⟩ := hcl
          have hc := HZ.out.2.2.1.cells rfl j (.string t) (by rw [List.getElem?_replicate, if_pos hjl])
          rw [add_lit] at hc
          go_wp2
          exact ⟨⟨j + 1, by go_num, hjl⟩, by simp [intOf]; omega⟩
        · have hjg : (L.length : Int) ≤ (j : Int) := by omega
          go_wp2_with fail
          go_at_call 17
          refine (Ha.out _ HZ.out.2.2.2).mono ?_
          rintro r w2 ⟨rfl, hb2⟩
          have Hb2 := Lib.hid (HZ.out.2.2.2.trans (hb2.mono HZ.out.2.2.2.size))
          clear hb2
          go_wp2
          go_ret
          exact ⟨rfl, Hb2.out⟩
end Go.Proofs.YtchmhdmapknmfaaGreatDoor
