/-
  FnZBuffers: for every size and all operations the law answers true.
-/
import Derived.Test.YtchmhdmapknmfaaGreatDoorWl
import Derived.Test.YtchmhdmapknmfaaGreatDoorBl
namespace Go.Proofs.YtchmhdmapknmfaaGreatDoor
open Go.RowKit

def aS : ByteArray := ⟨#[97]⟩
def oneOp : List ZbOp := [⟨aS, true, false⟩]
theorem one_arr (w : World) : ZoArr (.slice (some ⟨w.heap.size, 0, none⟩) 1 1) oneOp (w.alloc (.cells #[.string aS, .bool true, .bool false] 59)) := by
  refine .inr ⟨w.heap.size, 0, 1, rfl, by simp, fun i hi => ?_⟩
  have hi0 : i = 0 := by
    have : i < 1 := hi
    omega
  subst hi0
  have h := heap_alloc_new w (.cells #[.string aS, .bool true, .bool false] 59)
  exact ⟨cell_of_row _ _ 0 _ _ _ h, cell_of_row _ _ 1 _ _ _ h, cell_of_row _ _ 2 _ _ _ h⟩

set_option maxRecDepth 100000 in
set_option maxHeartbeats 1000000 in
theorem buffers_big (n : Int) (p : Option Addr) (k cap : Nat) (w : World) (h : 2147483647 < k) : Calls Tryz.prog 11 #[.int .i64 n, .slice p k cap] w fun r w' => r = .returned (.bool true) ∧ Below w.heap.size w w' := by
  have Hf := Lib.hid (fits12_big p k cap w h)
  clear h
  go_enter Tryz.func11, Tryz.ntmps11
  go_wp2_with fail
  go_at_call 30
  refine Hf.out.mono ?_
  rintro r w1 ⟨b, rfl, rfl, rfl⟩
  go_wp2
  go_ret
  exact ⟨rfl, Below.refl _ _⟩

set_option maxRecDepth 100000 in
set_option maxHeartbeats 4000000 in
theorem buffers_main (n : Int) (v : Value) (L : List ZbOp) (w : World) (hp : Pow w) (hH : 11 ≤ w.heap.size) (h : ZoArr v L w) (hL : L.length ≤ 2147483647) :
    Calls Tryz.prog 11 #[.int .i64 n, v] w fun r w' => r = .returned (.bool true) ∧ Below w.heap.size w w' := by
  have Ha := Lib.hid (fun W (hb : Below w.heap.size w W) => awake W (hp.belowB hb hH) (Nat.le_trans hH hb.size))
  have Hf := Lib.hid (fits12_any v L w h hL)
  obtain ⟨pv, capv, rfl⟩ := h.slice
  have HA := Lib.hid h
  have hlB : (L.length : Int) ≤ 2147483647 := by omega
  clear hp hH h hL
  go_enter Tryz.func11, Tryz.ntmps11
  go_wp2_with fail
  go_at_call 30
  refine Hf.out.mono ?_
  rintro r w1 ⟨b, rfl, hb1⟩
  have HB1 := Lib.hid hb1
  clear hb1 Hf
  cases b with
  | false =>
    go_wp2
    go_ret
    exact ⟨rfl, HB1.out⟩
  | true =>
    by_cases hbig : (100 : Int) < (L.length : Int)
    · go_wp2_with fail
      go_at_call 17
      refine (Ha.out _ HB1.out).mono ?_
      rintro r w2 ⟨rfl, hb⟩
      have Hb := Lib.hid (HB1.out.trans (hb.mono HB1.out.size))
      clear hb
      go_wp2
      go_ret
      exact ⟨rfl, Hb.out⟩
    · have hle : (L.length : Int) ≤ 100 := by omega
      clear hbig
      by_cases hnb : (300000 : Int) < n
      · go_wp2_with fail
        go_at_call 17
        refine (Ha.out _ HB1.out).mono ?_
        rintro r w2 ⟨rfl, hb⟩
        have Hb := Lib.hid (HB1.out.trans (hb.mono HB1.out.size))
        clear hb
        go_wp2
        go_ret
        exact ⟨rfl, Hb.out⟩
      · have hn : n ≤ 300000 := by omega
        clear hnb
        go_wp2_with fail
        go_loop [5] (fun v5 => ∃ k : Nat, v5 = .int .i64 (k : Int) ∧ k ≤ L.length ∧ ∀ j (h : j < L.length), j < k → L[j].text.size ≤ 5000) (fun v5 => L.length - (intOf v5).toNat)
        case atStart => exact ⟨0, rfl, Nat.zero_le _, fun j _ h => absurd h (Nat.not_lt_zero j)⟩
        case round =>
          obtain ⟨k, rfl, hk, hall⟩ := hrel
          by_cases hlt : k < L.length
          · rcases HA.out with ⟨hnil, -⟩ | ⟨b, off, cap, hv, hb, hc⟩
            · rw [hnil] at hlt; simp at hlt
            · obtain ⟨rfl, -⟩ : pv = some ⟨b, off, none⟩ ∧ capv = cap := by simpa using hv
              obtain ⟨c0, -, -⟩ := hc k hlt
              rw [← HB1.out.cell hb] at c0
              obtain ⟨t, ht⟩ : ∃ t, t = L[k].text := ⟨_, rfl⟩
              rw [← ht] at c0
              have hkI : (k : Int) < (L.length : Int) := by omega
              have HS := Lib.hid (And.intro hall (And.intro ht hlt))
              clear hall ht hc hb hv
              by_cases htb : (5000 : Int) < (t.size : Int)
              · go_wp2_with fail
                go_at_call 17
                refine (Ha.out _ HB1.out).mono ?_
                rintro r w2 ⟨rfl, hb⟩
                have Hb := Lib.hid (HB1.out.trans (hb.mono HB1.out.size))
                clear hb
                go_wp2
                go_ret
                exact ⟨rfl, Hb.out⟩
              · have hts : (t.size : Int) ≤ 5000 := by omega
                clear htb
                have HM := Lib.hid hts
                go_wp2
                refine ⟨⟨k + 1, by go_num, hlt, fun j hj hjk => ?_⟩, by simp [intOf]; omega⟩
                by_cases e : j < k
                · exact HS.out.1 j hj e
                · have e2 : j = k := by omega
                  subst e2
                  rw [← HS.out.2.1]
                  have := HM.out
                  omega
          · have hge : (L.length : Int) ≤ (k : Int) := by omega
            have h0 : ∀ o ∈ L, o.text.size ≤ 5000 := by
              intro o ho
              obtain ⟨j, hj, rfl⟩ := List.getElem_of_mem ho
              exact hall j hj (by omega)
            have hA1 := HA.out.below HB1.out
            have Hz := Lib.hid (zBuffered_any n (.slice pv L.length capv) L w1 hA1 (by omega) hn h0)
            have Hp := Lib.hid (fun W (hb : Below w1.heap.size w1 W) => pieces_any n (.slice pv L.length capv) L W (hA1.below hb) (by omega) hn h0)
            have hlen : (zbRun (zbSize n) L).out.length ≤ 100000 := by
              have := zbRun_len (zbSize n) L
              omega
            have Hs := Lib.hid (fun (B1 B2 : Nat) v1 v2 W h1 h2 => same_any (B1 := B1) (B2 := B2) v1 v2 (zbRun (zbSize n) L).out W h1 h2 hlen)
            have Ho := Lib.hid (fun W => zBuffered_any 8 _ oneOp _ (one_arr W) (by decide) (by decide) (by decide))
            have ho1 : (zbRun (zbSize 8) oneOp).out.length = 1 := zbRun_one _ aS rfl rfl
            clear hall h0 hlt hk hA1 hlen
            go_wp2_with fail
            go_at_call 32
            refine Hz.out.mono ?_
            rintro r w2 ⟨v1, rfl, o1, b1⟩
            have H1 := Lib.hid (And.intro o1 b1)
            clear o1 b1
            go_wp2_with fail
            go_at_call 33
            refine (Hp.out _ H1.out.2).mono ?_
            rintro r w3 ⟨v2, rfl, o2, b2⟩
            have H2 := Lib.hid (And.intro (row_below H1.out.1 b2) (And.intro o2 (H1.out.2.trans (b2.mono H1.out.2.size))))
            clear o2 b2
            go_wp2_with fail
            go_at_call 31
            refine (Hs.out _ _ v1 v2 _ H2.out.1 H2.out.2.1).mono ?_
            rintro r w4 ⟨rfl, b3⟩
            have H3 := Lib.hid (H2.out.2.2.trans (b3.mono H2.out.2.2.size))
            clear b3
            unfold aS at Ho
            go_wp2_with fail
            go_at_call 32
            refine (Ho.out _).mono ?_
            rintro r w5 ⟨v3, rfl, o3, b4⟩
            rw [ho1] at o3
            obtain ⟨p3, k3, rfl⟩ := slice_of_own o3
            have H4 := Lib.hid (HB1.out.trans ((H3.out.trans (((Below.refl _ w4).alloc (Nat.le_refl _) _).trans (b4.mono (by simp)) |>.mono H3.out.size)).mono HB1.out.size))
            clear o3 b4
            go_wp2
            go_ret
            exact ⟨rfl, H4.out⟩
end Go.Proofs.YtchmhdmapknmfaaGreatDoor
