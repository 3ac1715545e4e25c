/-
  ZSum of a text of parts with a minus ahead of it.
-/
import Derived.Test.YtchmhdmapknmfaaGreatDoorEj
namespace Go.Proofs.YtchmhdmapknmfaaGreatDoor
open Go.RowKit

set_option maxRecDepth 100000 in
set_option maxHeartbeats 4000000 in
theorem zSum_neg {s : ByteArray} {u : Nat} (w : World) (hs : s.size ≤ 1000) (hu : u ≤ 9223372036854775808) {T0 : List UInt8} (hT0 : bts s = 45 :: T0) (hp : Pts T0 u) :
    Calls Tryz.prog 15 #[.string s] w (SumPost (-(u : Int)) w) := by
  obtain ⟨hlt0, hb0⟩ := at_head (s := s) (k := 0) (by rw [List.drop_zero]; exact hT0)
  have f45 : ((s[0].toNat : Int) == 45) = true := by rw [hb0]; rfl
  have hs1 : (1 : Int) ≤ (s.size : Int) := by omega
  have HX1 := Lib.hid (show bts (s.extract 1 s.size) = T0 by
    rw [show bts (s.extract 1 s.size) = (bts s).drop 1 from Lib.extract_to_end s 1, hT0]
    rfl)
  have HX2 := Lib.hid (show (s.extract 1 s.size).size ≤ 1000 by simp; omega)
  have hne := isEmpty_false hlt0
  have hlt0' : (0 : Int) < (s.size : Int) := by omega
  have HP := Lib.hid hp
  have Hs := Lib.hid hs
  clear hp hs hT0 hb0
  go_enter Tryz.func15, Tryz.ntmps15
  go_wp2_with fail
  go_loopw [0, 5] (fun v0 v5 wr => SuRel u w v0 v5 wr) (fun v0 _ _ => strLen v0)
  case atStart => exact ⟨s.extract 1 s.size, T0, u, rfl, HX1.out, HP.out, Nat.le_refl _, by rw [Nat.sub_self]; rfl, HX2.out, Below.refl _ _⟩
  case round =>
    obtain ⟨t, T, r, rfl, hT, hPts, hr, rfl, ht, hb⟩ := hrel
    obtain ⟨w4, rfl⟩ : ∃ w4, w4 = wr := ⟨_, rfl⟩
    have Hb := Lib.hid hb
    have HT := Lib.hid hT
    have Hr := Lib.hid hr
    have Hu := Lib.hid (show u ≤ 9223372036854775808 by omega)
    have hTs : T.length = t.size := by rw [← hT, bts_length]
    cases hPts with
    | cons _ U R N S un v tot h1 hU h2 h3 h4 h5 h6 h7 h8 =>
      have hlt : 0 < t.size := by omega
      have hne := isEmpty_false hlt
      clear hb hT
      have Hun := Lib.hid hU
      have H2 := Lib.hid h2
      have H3 := Lib.hid h3
      have H4 := Lib.hid h4
      have H5 := Lib.hid h5
      have H6 := Lib.hid h6
      have H7 := Lib.hid h7
      have H8 := Lib.hid h8
      have H1 := Lib.hid h1
      have HTs := Lib.hid hTs
      clear h1 hU h2 h3 h4 h5 h6 h7 h8 hTs hr
      go_wp2_with fail
      go_loopw [6, 7, 8, 9] (fun v6 v7 v8 v9 w9 => NuRel T N S (U ++ R) w4 v6 v7 v8 v9 w9) (fun _ _ v8 _ _ => t.size - (intOf v8).toNat)
      case atStart => exact ⟨0, 0, 1, false, rfl, rfl, rfl, rfl, Nat.zero_le _, by rw [List.drop_zero]; exact H1.out, rfl⟩
      case round =>
        obtain ⟨k, n, sc, p, rfl, rfl, rfl, rfl, hk, hrd, hw9⟩ := hrel
        obtain rfl := hw9.symm
        have hkt : k < t.size := by
          rcases Nat.lt_or_ge k t.size with h | h
          · exact h
          · rw [List.drop_of_length_le (by rw [HTs.out]; exact h)] at hrd
            exact absurd (rd_end hrd) Hun.out.some
        have hkt' : (k : Int) < (t.size : Int) := by omega
        have hdr : T.drop k = t[k] :: T.drop (k + 1) := by rw [← HT.out]; exact bts_drop t k hkt
        rw [hdr] at hrd
        have HN := Lib.hid (show N ≤ 9223372036854775808 by have := H7.out; have := Hr.out; have := Hu.out; omega)
        have HS := Lib.hid (show S ≤ 3600000000000 from Nat.le_trans H5.out (un_le Hun.out))
        clear hdr
        by_cases hdot : t[k] = 46
        · have g1 : (t[k].toNat : Int) < 48 := by rw [hdot]; decide
          have g4 : ((t[k].toNat : Int) == 46) = true := by rw [hdot]; rfl
          rw [hdot, rd_dot] at hrd
          have Hrd := Lib.hid hrd
          clear hrd hdot
          go_wp2
          exact ⟨⟨k + 1, n, sc, true, rfl, rfl, by go_num, rfl, by rw [HTs.out]; omega, Hrd.out, rfl⟩, by simp [intOf]; omega⟩
        · have g4 : ((t[k].toNat : Int) == 46) = false := by
            rw [beq_eq_false_iff_ne]
            intro e
            exact hdot (UInt8.toNat_inj.1 (by have t46 : (46 : UInt8).toNat = 46 := rfl; omega))
          by_cases hdig : isD t[k] = true
          · have hdd := hdig
            unfold isD at hdd
            simp at hdd
            have g1 : (48 : Int) ≤ (t[k].toNat : Int) := by omega
            have g2 : (t[k].toNat : Int) ≤ 57 := by omega
            rw [rd_digit hdig] at hrd
            have hbd := rd_bound hrd
            have g5 := HN.out
            have g6 := HS.out
            have Hrd := Lib.hid hrd
            have g7 : n * 10 + (t[k].toNat - 48) ≤ 9223372036854775808 := by omega
            cases p with
            | true =>
              have g8 : sc * 10 ≤ 3600000000000 := by have := hbd.2; simp at this; omega
              clear hrd hdot hdig hdd hbd g5 g6
              go_wp2
              exact ⟨⟨k + 1, n * 10 + (t[k].toNat - 48), sc * 10, true, congrArg (Value.int .u64) (by omega), congrArg (Value.int .u64) (by omega), by go_num, rfl, by rw [HTs.out]; omega, Hrd.out, rfl⟩, by simp [intOf]; omega⟩
            | false =>
              clear hrd hdot hdig hdd hbd g5 g6
              go_wp2
              exact ⟨⟨k + 1, n * 10 + (t[k].toNat - 48), sc, false, congrArg (Value.int .u64) (by omega), rfl, by go_num, rfl, by rw [HTs.out]; omega, Hrd.out, rfl⟩, by simp [intOf]; omega⟩
          · obtain ⟨eN, eS, eR⟩ := rd_stops hrd (by simpa using hdig) hdot
            subst eN eS
            have ER := Lib.hid eR
            have HD := Lib.hid (show (U ++ R).length = t.size - k by
              rw [eR, List.length_cons, List.length_drop, HTs.out]
              omega)
            have hcases : (t[k].toNat : Int) < 48 ∨ ((48 : Int) ≤ (t[k].toNat : Int) ∧ (57 : Int) < (t[k].toNat : Int)) := by
              unfold isD at hdig
              simp at hdig
              omega
            have hkle : (k : Int) ≤ (t.size : Int) := by omega
            clear hrd hdot hdig eR
            obtain ⟨J, hJ6, hnm, hnv, hum, hless⟩ := Hun.out.index
            have HNM := Lib.hid hnm
            have HNV := Lib.hid hnv
            have HUM := Lib.hid hum
            have HLE := Lib.hid hless
            clear hnm hnv hum hless
            rcases hcases with g1 | ⟨g1, g2⟩
            all_goals
              go_wp2_with fail
              go_loopw [0, 5, 76] (fun v0 v5 v76 w3 => UnRel J (.string t) (.int .u64 ((u - (v + tot) : Nat) : Int)) (w4.alloc tabU) v0 v5 v76 w3) (fun _ _ v76 _ => 6 - (intOf v76).toNat)
              case atStart => exact ⟨rfl, rfl, 0, rfl, Nat.zero_le _, Below.refl _ _⟩
              case round =>
                obtain ⟨rfl, rfl, j, rfl, hjJ, hb3⟩ := hrel
                have hj6 : j < 6 := by omega
                have hj6' : (j : Int) < 6 := by omega
                have htab : wr.heap[w4.heap.size]? = some tabU := by
                  rw [hb3.block _ (by simp)]
                  exact heap_alloc_new w4 _
                obtain ⟨d0, d1⟩ := tabU_cells htab j hj6
                obtain ⟨nm, hnm⟩ : ∃ nm : ByteArray, nm = ⟨(unm j).toArray⟩ := ⟨_, rfl⟩
                rw [← hnm] at d0
                have HNm := Lib.hid hnm
                clear hnm
                have Hb3 := Lib.hid hb3
                have Htab := Lib.hid htab
                clear hb3 htab
                go_wp2_with fail
                obtain ⟨X, hX⟩ : ∃ X, t.extract k t.size = X := ⟨_, rfl⟩
                rw [hX]
                obtain ⟨w5, hw5⟩ : ∃ w5, wr.alloc (.cells #[.string nm, .int .u64 ((unv j : Nat) : Int)] 87) = w5 := ⟨_, rfl⟩
                rw [hw5]
                have k0 : w5.cell? ⟨wr.heap.size, 0, none⟩ = some (.string nm) := by rw [← hw5]; simp
                have k1 : w5.cell? ⟨wr.heap.size, 1, none⟩ = some (.int .u64 ((unv j : Nat) : Int)) := by rw [← hw5]; simp
                have Hb5 := Lib.hid (show Below (w4.alloc tabU).heap.size (w4.alloc tabU) w5 by rw [← hw5]; exact Hb3.out.alloc Hb3.out.size _)
                clear hw5
                have hXl : bts X = U ++ R := by
                  rw [ER.out, ← hX, show bts (t.extract k t.size) = (bts t).drop k from Lib.extract_to_end t k, bts_drop t k hkt, HT.out]
                have HXl := Lib.hid hXl
                have HX := Lib.hid hX
                have hcs := um_cases (X := X) HNm.out
                clear hX hXl
                rcases hcs with ⟨hum, e1 | ⟨e1, e2⟩ | ⟨e1, e2, e3, e4, e5⟩⟩ | ⟨hum, e1, e2, e3 | ⟨e3, e4⟩ | ⟨e3, e4, e5⟩⟩
                · have hjn := un_later HUM.out HXl.out hum hjJ
                  clear hum
                  go_quiet (fail)
                  go_wp2
                  exact ⟨⟨rfl, rfl, j + 1, by go_num, hjn, below_drewN Hb5.out _⟩, by simp [intOf]; omega⟩
                · have hjn := un_later HUM.out HXl.out hum hjJ
                  clear hum
                  go_quiet (fail)
                  go_wp2
                  exact ⟨⟨rfl, rfl, j + 1, by go_num, hjn, below_drewN Hb5.out _⟩, by simp [intOf]; omega⟩
                · have hjn := un_later HUM.out HXl.out hum hjJ
                  have e6 : ((X[1].toNat : Int) == 115) = true := by rw [e5]; rfl
                  have e7 : (1 : Int) < (X.size : Int) := by omega
                  clear hum
                  go_quiet (fail)
                  go_wp2
                  exact ⟨⟨rfl, rfl, j + 1, by go_num, hjn, below_drewN Hb5.out _⟩, by simp [intOf]; omega⟩
                · have hjE := un_now HLE.out HXl.out hum hjJ
                  obtain ⟨hS0, fE, fE', fk⟩ := su_facts HNm.out hjE HNM.out HXl.out HTs.out HX.out H3.out H4.out HD.out hkt
                  clear hum
                  go_quiet (fail)
                  go_wp2
                  exact su_next HNm.out hjE HNM.out HNV.out HXl.out Hun.out.pos H6.out H8.out Hr.out Hu.out (un_le Hun.out) HX.out ht Hb.out Hb5.out hkt
                · have hjE := un_now HLE.out HXl.out hum hjJ
                  obtain ⟨hS0, fE, fE', fk⟩ := su_facts HNm.out hjE HNM.out HXl.out HTs.out HX.out H3.out H4.out HD.out hkt
                  have e7 : decide ((1 : Int) < (X.size : Int)) = false := by
                    rw [decide_eq_false_iff_not] at e4 ⊢
                    omega
                  clear hum
                  go_quiet (fail)
                  go_wp2
                  exact su_next HNm.out hjE HNM.out HNV.out HXl.out Hun.out.pos H6.out H8.out Hr.out Hu.out (un_le Hun.out) HX.out ht Hb.out Hb5.out hkt
                · have hjE := un_now HLE.out HXl.out hum hjJ
                  obtain ⟨hS0, fE, fE', fk⟩ := su_facts HNm.out hjE HNM.out HXl.out HTs.out HX.out H3.out H4.out HD.out hkt
                  have e6 : ((X[1].toNat : Int) == 115) = false := by
                    rw [beq_eq_false_iff_ne]
                    intro e
                    exact e5 (UInt8.toNat_inj.1 (by have t115 : (115 : UInt8).toNat = 115 := rfl; omega))
                  have e7 : (1 : Int) < (X.size : Int) := by omega
                  clear hum
                  go_quiet (fail)
                  go_wp2
                  exact su_next HNm.out hjE HNM.out HNV.out HXl.out Hun.out.pos H6.out H8.out Hr.out Hu.out (un_le Hun.out) HX.out ht Hb.out Hb5.out hkt
    | nil =>
      have ht0 : t.size = 0 := by simpa using hTs.symm
      have hne2 := isEmpty_true ht0
      obtain ⟨x, hx⟩ : ∃ x : Int, x = ((u - 0 : Nat) : Int) := ⟨_, rfl⟩
      have x1 : x ≤ 9223372036854775808 := by omega
      obtain ⟨y, hy⟩ : ∃ y : Int, y = IntKind.u64.wrap (-x) := ⟨_, rfl⟩
      have x2 : IntKind.u64.wrap (-x) = y := hy.symm
      have x3 : IntKind.i64.wrap y = -x := by rw [hy, IntKind.wrap_u64, IntKind.wrap_i64]; omega
      rw [← hx]
      have Hx := Lib.hid (show x = (u : Int) by omega)
      clear hb hT hTs ht hx hy ht0 hu
      go_wp2
      go_ret2
      exact ⟨by show Ending.returned (.tuple #[.int .i64 (-x), .bool true]) = _; rw [Hx.out], Hb.out⟩
end Go.Proofs.YtchmhdmapknmfaaGreatDoor
