/-
  ZSum of a text of parts.
-/
import Derived.Test.YtchmhdmapknmfaaGreatDoorEd
import Derived.Test.YtchmhdmapknmfaaGreatDoorEg
namespace Go.Proofs.YtchmhdmapknmfaaGreatDoor
open Go.RowKit

def strLen : Value → Nat
  | .string t => t.size
  | _ => 0

theorem isEmpty_false {s : ByteArray} (h : 0 < s.size) : s.toList.isEmpty = false := by
  rw [Lib.toList_data]
  cases e : s.data.toList with
  | nil => rw [Lib.size_eq, e] at h; simp at h
  | cons _ _ => rfl
theorem isEmpty_true {s : ByteArray} (h : s.size = 0) : s.toList.isEmpty = true := by
  rw [Lib.toList_data]
  have : s.data.toList = [] := List.eq_nil_of_length_eq_zero (by rw [← Lib.size_eq]; exact h)
  rw [this]
  rfl

/-- What the loop over the parts keeps. -/
def SuRel (u : Nat) (w : World) (v0 v5 : Value) (wr : World) : Prop :=
  ∃ (t : ByteArray) (T : List UInt8) (r : Nat), v0 = .string t ∧ bts t = T ∧ Pts T r ∧ r ≤ u ∧ v5 = .int .u64 ((u - r : Nat) : Int) ∧ t.size ≤ 1000 ∧ Below w.heap.size w wr

/-- What the loop over the letters of a number keeps. -/
def NuRel (T : List UInt8) (N S : Nat) (R : List UInt8) (w0 : World) (v6 v7 v8 v9 : Value) (wr : World) : Prop :=
  ∃ (k n sc : Nat) (p : Bool), v6 = .int .u64 n ∧ v7 = .int .u64 sc ∧ v8 = .int .i64 k ∧ v9 = .bool p ∧ k ≤ T.length ∧ rd (T.drop k) n sc p = (N, S, R) ∧ wr = w0

theorem Un.some {U r : List UInt8} {un : Nat} (h : Un U un r) : U ++ r ≠ [] := by cases h <;> simp

theorem Un.pos {U r : List UInt8} {un : Nat} (h : Un U un r) : 0 < U.length := by cases h <;> simp

theorem rd_end {n sc N S : Nat} {p : Bool} {R : List UInt8} (h : rd [] n sc p = (N, S, R)) : R = [] := by
  have := congrArg (fun x => x.2.2) h
  exact this.symm

theorem rd_stops {c : UInt8} {l : List UInt8} {n sc N S : Nat} {p : Bool} {R : List UInt8} (h : rd (c :: l) n sc p = (N, S, R)) (h1 : isD c = false) (h2 : c ≠ 46) : N = n ∧ S = sc ∧ R = c :: l := by
  rw [rd_stop h1 h2] at h
  exact ⟨(congrArg (fun x => x.1) h).symm, (congrArg (fun x => x.2.1) h).symm, (congrArg (fun x => x.2.2) h).symm⟩

theorem rd_bound {l : List UInt8} {n sc N S : Nat} {p : Bool} {R : List UInt8} (h : rd l n sc p = (N, S, R)) : n ≤ N ∧ sc ≤ S := by
  have := rd_ge l n sc p
  rw [h] at this
  exact this

theorem un_le {U r : List UInt8} {un : Nat} (h : Un U un r) : un ≤ 3600000000000 := by cases h <;> omega

/-- The block of the units. -/
def tabU : Obj := .cells #[.string ⟨#[110, 115]⟩, .int .u64 1, .string ⟨#[194, 181, 115]⟩, .int .u64 1000, .string ⟨#[109, 115]⟩, .int .u64 1000000, .string ⟨#[115]⟩, .int .u64 1000000000, .string ⟨#[109]⟩, .int .u64 60000000000, .string ⟨#[104]⟩, .int .u64 3600000000000] 87

/-- What the loop over the units keeps. -/
def UnRel (J : Nat) (a b : Value) (wA : World) (v0 v5 v : Value) (w3 : World) : Prop := v0 = a ∧ v5 = b ∧ ∃ j : Nat, v = .int .i64 j ∧ j ≤ J ∧ Below wA.heap.size wA w3

theorem tabU_cells {A : Nat} {w : World} (h : w.heap[A]? = some tabU) : ∀ j, j < 6 → w.cell? ⟨A, j * 2, none⟩ = some (.string ⟨(unm j).toArray⟩) ∧ w.cell? ⟨A, j * 2 + 1, none⟩ = some (.int .u64 (unv j)) := by
  intro j hj
  have hh : j = 0 ∨ j = 1 ∨ j = 2 ∨ j = 3 ∨ j = 4 ∨ j = 5 := by omega
  rcases hh with rfl | rfl | rfl | rfl | rfl | rfl <;> simp [World.cell?, h, tabU, unm, unv]

theorem nm_pre {nm X : ByteArray} {L : List UInt8} (hn : nm = ⟨L.toArray⟩) (h : nm.size ≤ X.size) : ((X.extract 0 nm.size).toList == nm.toList) = Ly.pre L (bts X) := by
  have h1 : nm.toList = L := by rw [hn, Lib.toList_data]
  have h2 : nm.size = L.length := by rw [hn]; rfl
  have := sub_pre X 0 nm.size L h2 (by omega)
  rw [Nat.zero_add, List.drop_zero] at this
  rw [h1]
  exact this

theorem nm_m {nm : ByteArray} {L : List UInt8} (hn : nm = ⟨L.toArray⟩) : (nm.toList == [109]) = (L == [109]) := by
  have h1 : nm.toList = L := by rw [hn, Lib.toList_data]
  rw [h1]

theorem snd_at {X : ByteArray} (h : 1 < X.size) : snd115 (bts X) = (X[1] == 115) := by
  have h0 := bts_drop X 0 (by omega)
  have h1 := bts_drop X 1 h
  rw [List.drop_zero] at h0
  rw [h0, h1]
  rfl

theorem snd_short {X : ByteArray} (h : X.size ≤ 1) : snd115 (bts X) = false := by
  have hl : (bts X).length ≤ 1 := by rw [bts_length]; exact h
  match hb : bts X with
  | [] => rfl
  | [_] => rfl
  | _ :: _ :: _ => rw [hb] at hl; simp at hl

/-- How the test of a unit comes out. -/
theorem um_cases {nm X : ByteArray} {j : Nat} (hn : nm = ⟨(unm j).toArray⟩) :
    (um j (bts X) = false ∧ (decide (nm.size ≤ X.size) = false ∨
      (nm.size ≤ X.size ∧ ((X.extract 0 nm.size).toList == nm.toList) = false) ∨
      (nm.size ≤ X.size ∧ ((X.extract 0 nm.size).toList == nm.toList) = true ∧ (nm.toList == [109]) = true ∧ ∃ h : 1 < X.size, X[1] = 115))) ∨
    (um j (bts X) = true ∧ nm.size ≤ X.size ∧ ((X.extract 0 nm.size).toList == nm.toList) = true ∧
      ((nm.toList == [109]) = false ∨ ((nm.toList == [109]) = true ∧ decide (1 < X.size) = false) ∨
        ((nm.toList == [109]) = true ∧ ∃ h : 1 < X.size, X[1] ≠ 115))) := by
  have h2 : nm.size = (unm j).length := by rw [hn]; rfl
  unfold um
  rw [nm_m hn]
  by_cases hle : nm.size ≤ X.size
  · have hle' := hle
    rw [nm_pre hn hle]
    cases hp : Ly.pre (unm j) (bts X) with
    | false => exact .inl ⟨rfl, .inr (.inl ⟨hle', rfl⟩)⟩
    | true =>
      cases hm : (unm j == [109]) with
      | false => exact .inr ⟨rfl, hle', rfl, .inl rfl⟩
      | true =>
        by_cases h1 : 1 < X.size
        · rw [snd_at h1]
          by_cases h5 : X[1] = 115
          · exact .inl ⟨by rw [h5]; rfl, .inr (.inr ⟨hle', rfl, rfl, h1, h5⟩)⟩
          · exact .inr ⟨by rw [beq_eq_false_iff_ne.2 h5]; rfl, hle', rfl, .inr (.inr ⟨rfl, h1, h5⟩)⟩
        · rw [snd_short (by omega)]
          exact .inr ⟨rfl, hle', rfl, .inr (.inl ⟨rfl, by rw [decide_eq_false_iff_not]; omega⟩)⟩
  · have hs := pre_short (unm j) (bts X) (by rw [bts_length]; omega)
    rw [hs]
    exact .inl ⟨rfl, .inl (by rw [decide_eq_false_iff_not]; omega)⟩

theorem un_later {J j : Nat} {X : ByteArray} {L : List UInt8} (h : um J L = true) (hX : bts X = L) (hj : um j (bts X) = false) (hle : j ≤ J) : j + 1 ≤ J := by
  rcases Nat.lt_or_ge j J with h1 | h1
  · omega
  · rw [hX, show j = J by omega, h] at hj
    cases hj

theorem un_now {J j : Nat} {X : ByteArray} {L : List UInt8} (h : ∀ i, i < J → um i L = false) (hX : bts X = L) (hj : um j (bts X) = true) (hle : j ≤ J) : j = J := by
  rcases Nat.lt_or_ge j J with h1 | h1
  · rw [hX, h j h1] at hj
    cases hj
  · omega

theorem su_facts {nm X t : ByteArray} {U R T : List UInt8} {j J k S : Nat} (hn : nm = ⟨(unm j).toArray⟩) (hj : j = J) (hU : unm J = U) (hX : bts X = U ++ R) (hT : T.length = t.size) (_ : t.extract k t.size = X) (h3 : (U ++ R).length < T.length) (h4 : 1 ≤ S)
    (hD : (U ++ R).length = t.size - k) (_ : k < t.size) :
    S ≠ 0 ∧ (((X.size - nm.size : Nat) : Int) == (t.size : Int)) = false ∧ ¬ ((X.size - nm.size : Nat) : Int) = (t.size : Int) ∧ ((k : Int) == 0) = false := by
  have h5 : nm.size = U.length := by rw [hn, hj, hU]; rfl
  have h6 : X.size = (U ++ R).length := by rw [← hX, bts_length]
  refine ⟨by omega, by rw [beq_eq_false_iff_ne]; omega, by omega, by rw [beq_eq_false_iff_ne]; omega⟩

theorem su_next {u v tot un N S j J k nq : Nat} {nm X t : ByteArray} {U R : List UInt8} {w w4 w5 : World} {o : Obj} (hn : nm = ⟨(unm j).toArray⟩) (hj : j = J) (hU : unm J = U) (hV : unv J = un) (hX : bts X = U ++ R) (hUp : 0 < U.length)
    (h6 : un / S * N = v) (h8 : Pts R tot) (hr : v + tot ≤ u) (hu : u ≤ 9223372036854775808) (hun : un ≤ 3600000000000) (hx : t.extract k t.size = X) (ht : t.size ≤ 1000) (hb : Below w.heap.size w w4) (hb5 : Below (w4.alloc o).heap.size (w4.alloc o) w5) (hk : k < t.size) :
    SuRel u w (.string (X.extract nm.size X.size)) (.int .u64 (IntKind.u64.wrap (((u - (v + tot) : Nat) : Int) + IntKind.u64.wrap (IntKind.u64.wrap ((unv J : Int) / (S : Int)) * (N : Int))))) (w5.drewN nq) ∧
      strLen (.string (X.extract nm.size X.size)) < strLen (.string t) := by
  have h5 : nm.size = U.length := by rw [hn, hj, hU]; rfl
  have hl : (X.extract nm.size X.size).size = X.size - nm.size := by simp
  have hXs : X.size = t.size - k := by rw [← hx]; simp
  have hXl : X.size = U.length + R.length := by rw [← bts_length, hX, List.length_append]
  have e1 : (unv J : Int) / (S : Int) = ((unv J / S : Nat) : Int) := rfl
  have hle : unv J / S ≤ 3600000000000 := Nat.le_trans (Nat.div_le_self _ _) (by rw [hV]; exact hun)
  have hz : ∀ n : Nat, n ≤ 3600000000000 → IntKind.u64.wrap (n : Int) = (n : Int) := fun n h => IntWalk.u64_in _ ⟨by omega, by omega⟩
  have e2 : IntKind.u64.wrap ((unv J / S : Nat) : Int) = ((unv J / S : Nat) : Int) := hz _ hle
  have e3 : ((unv J / S : Nat) : Int) * (N : Int) = (v : Int) := by rw [← Int.natCast_mul, hV, h6]
  have e4 : IntKind.u64.wrap (v : Int) = (v : Int) := IntWalk.u64_in _ ⟨by omega, by omega⟩
  have e5 : ((u - (v + tot) : Nat) : Int) + (v : Int) = ((u - tot : Nat) : Int) := by omega
  have e6 : IntKind.u64.wrap ((u - tot : Nat) : Int) = ((u - tot : Nat) : Int) := IntWalk.u64_in _ ⟨by omega, by omega⟩
  rw [e1, e2, e3, e4, e5, e6]
  refine ⟨⟨_, R, tot, rfl, ?_, h8, by omega, rfl, by rw [hl]; omega, ?_⟩, ?_⟩
  · rw [show bts (X.extract nm.size X.size) = (bts X).drop nm.size from Lib.extract_to_end X _, hX, h5]
    exact List.drop_left
  · have h1 : Below w.heap.size w (w4.alloc o) := hb.alloc hb.size _
    exact below_drewN (h1.trans (hb5.mono (by have := hb.size; simp; omega))) _
  · show (X.extract nm.size X.size).size < t.size
    rw [hl]
    omega

/-- The answer. -/
def SumPost (d : Int) (w : World) (r : Ending) (w' : World) : Prop := r = .returned (.tuple #[.int .i64 d, .bool true]) ∧ Below w.heap.size w w'

set_option maxRecDepth 100000 in
set_option maxHeartbeats 4000000 in
theorem zSum_pos {s : ByteArray} {u : Nat} (w : World) (hs : s.size ≤ 1000) (hu : u < 9223372036854775808) (hp : Pts (bts s) u) (h0 : ∃ c l, bts s = c :: l ∧ isD c = true) :
    Calls Tryz.prog 15 #[.string s] w (SumPost (u : Int) w) := by
  obtain ⟨c0, l0, hc0, hd0⟩ := h0
  obtain ⟨hlt0, hb0⟩ := at_head (s := s) (k := 0) (by rw [List.drop_zero]; exact hc0)
  have f45 : ((s[0].toNat : Int) == 45) = false := by
    rw [beq_eq_false_iff_ne, hb0]
    unfold isD at hd0
    simp at hd0
    omega
  have hne := isEmpty_false hlt0
  have hlt0' : (0 : Int) < (s.size : Int) := by omega
  have HP := Lib.hid hp
  have Hs := Lib.hid hs
  clear hp hs hc0 hd0 hb0
  go_enter Tryz.func15, Tryz.ntmps15
  go_wp2_with fail
  go_loopw [0, 5] (fun v0 v5 wr => SuRel u w v0 v5 wr) (fun v0 _ _ => strLen v0)
  case atStart => exact ⟨s, bts s, u, rfl, rfl, HP.out, Nat.le_refl _, by rw [Nat.sub_self]; rfl, Hs.out, Below.refl _ _⟩
  case round =>
    obtain ⟨t, T, r, rfl, hT, hPts, hr, rfl, ht, hb⟩ := hrel
    obtain ⟨w4, rfl⟩ : ∃ w4, w4 = wr := ⟨_, rfl⟩
    have Hb := Lib.hid hb
    have HT := Lib.hid hT
    have Hr := Lib.hid hr
    have Hu := Lib.hid (show u ≤ 9223372036854775808 by omega)
    have hTs : T.length = t.size := by rw [← hT, bts_length]
    cases hPts with
    | cons _ U R N S un v tot h1 hU h2 h3 h4 h5 h6 h7 h8 =>
      have hlt : 0 < t.size := by omega
      have hne := isEmpty_false hlt
      clear hb hT
      have Hun := Lib.hid hU
      have H2 := Lib.hid h2
      have H3 := Lib.hid h3
      have H4 := Lib.hid h4
      have H5 := Lib.hid h5
      have H6 := Lib.hid h6
      have H7 := Lib.hid h7
      have H8 := Lib.hid h8
      have H1 := Lib.hid h1
      have HTs := Lib.hid hTs
      clear h1 hU h2 h3 h4 h5 h6 h7 h8 hTs hr
      go_wp2_with fail
      go_loopw [6, 7, 8, 9] (fun v6 v7 v8 v9 w9 => NuRel T N S (U ++ R) w4 v6 v7 v8 v9 w9) (fun _ _ v8 _ _ => t.size - (intOf v8).toNat)
      case atStart => exact ⟨0, 0, 1, false, rfl, rfl, rfl, rfl, Nat.zero_le _, by rw [List.drop_zero]; exact H1.out, rfl⟩
      case round =>
        obtain ⟨k, n, sc, p, rfl, rfl, rfl, rfl, hk, hrd, hw9⟩ := hrel
        obtain rfl := hw9.symm
        have hkt : k < t.size := by
          rcases Nat.lt_or_ge k t.size with h | h
          · exact h
          · rw [List.drop_of_length_le (by rw [HTs.out]; exact h)] at hrd
            exact absurd (rd_end hrd) Hun.out.some
        have hkt' : (k : Int) < (t.size : Int) := by omega
        have hdr : T.drop k = t[k] :: T.drop (k + 1) := by rw [← HT.out]; exact bts_drop t k hkt
        rw [hdr] at hrd
        have HN := Lib.hid (show N ≤ 9223372036854775808 by have := H7.out; have := Hr.out; have := Hu.out; omega)
        have HS := Lib.hid (show S ≤ 3600000000000 from Nat.le_trans H5.out (un_le Hun.out))
        clear hdr
        by_cases hdot : t[k] = 46
        · have g1 : (t[k].toNat : Int) < 48 := by rw [hdot]; decide
          have g4 : ((t[k].toNat : Int) == 46) = true := by rw [hdot]; rfl
          rw [hdot, rd_dot] at hrd
          have Hrd := Lib.hid hrd
          clear hrd hdot
          go_wp2
          exact ⟨⟨k + 1, n, sc, true, rfl, rfl, by go_num, rfl, by rw [HTs.out]; omega, Hrd.out, rfl⟩, by simp [intOf]; omega⟩
        · have g4 : ((t[k].toNat : Int) == 46) = false := by
            rw [beq_eq_false_iff_ne]
            intro e
            exact hdot (UInt8.toNat_inj.1 (by have t46 : (46 : UInt8).toNat = 46 := rfl; omega))
          by_cases hdig : isD t[k] = true
          · have hdd := hdig
            unfold isD at hdd
            simp at hdd
            have g1 : (48 : Int) ≤ (t[k].toNat : Int) := by omega
            have g2 : (t[k].toNat : Int) ≤ 57 := by omega
            rw [rd_digit hdig] at hrd
            have hbd := rd_bound hrd
            have g5 := HN.out
            have g6 := HS.out
            have Hrd := Lib.hid hrd
            have g7 : n * 10 + (t[k].toNat - 48) ≤ 9223372036854775808 := by omega
            cases p with
            | true =>
              have g8 : sc * 10 ≤ 3600000000000 := by have := hbd.2; simp at this; omega
              clear hrd hdot hdig hdd hbd g5 g6
              go_wp2
              exact ⟨⟨k + 1, n * 10 + (t[k].toNat - 48), sc * 10, true, congrArg (Value.int .u64) (by omega), congrArg (Value.int .u64) (by omega), by go_num, rfl, by rw [HTs.out]; omega, Hrd.out, rfl⟩, by simp [intOf]; omega⟩
            | false =>
              clear hrd hdot hdig hdd hbd g5 g6
              go_wp2
              exact ⟨⟨k + 1, n * 10 + (t[k].toNat - 48), sc, false, congrArg (Value.int .u64) (by omega), rfl, by go_num, rfl, by rw [HTs.out]; omega, Hrd.out, rfl⟩, by simp [intOf]; omega⟩
          · obtain ⟨eN, eS, eR⟩ := rd_stops hrd (by simpa using hdig) hdot
            subst eN eS
            have ER := Lib.hid eR
            have HD := Lib.hid (show (U ++ R).length = t.size - k by
              rw [eR, List.length_cons, List.length_drop, HTs.out]
              omega)
            have hcases : (t[k].toNat : Int) < 48 ∨ ((48 : Int) ≤ (t[k].toNat : Int) ∧ (57 : Int) < (t[k].toNat : Int)) := by
              unfold isD at hdig
              simp at hdig
              omega
            have hkle : (k : Int) ≤ (t.size : Int) := by omega
            clear hrd hdot hdig eR
            obtain ⟨J, hJ6, hnm, hnv, hum, hless⟩ := Hun.out.index
            have HNM := Lib.hid hnm
            have HNV := Lib.hid hnv
            have HUM := Lib.hid hum
            have HLE := Lib.hid hless
            clear hnm hnv hum hless
            rcases hcases with g1 | ⟨g1, g2⟩
            all_goals
              go_wp2_with fail
              go_loopw [0, 5, 76] (fun v0 v5 v76 w3 => UnRel J (.string t) (.int .u64 ((u - (v + tot) : Nat) : Int)) (w4.alloc tabU) v0 v5 v76 w3) (fun _ _ v76 _ => 6 - (intOf v76).toNat)
              case atStart => exact ⟨rfl, rfl, 0, rfl, Nat.zero_le _, Below.refl _ _⟩
              case round =>
                obtain ⟨rfl, rfl, j, rfl, hjJ, hb3⟩ := hrel
                have hj6 : j < 6 := by omega
                have hj6' : (j : Int) < 6 := by omega
                have htab : wr.heap[w4.heap.size]? = some tabU := by
                  rw [hb3.block _ (by simp)]
                  exact heap_alloc_new w4 _
                obtain ⟨d0, d1⟩ := tabU_cells htab j hj6
                obtain ⟨nm, hnm⟩ : ∃ nm : ByteArray, nm = ⟨(unm j).toArray⟩ := ⟨_, rfl⟩
                rw [← hnm] at d0
                have HNm := Lib.hid hnm
                clear hnm
                have Hb3 := Lib.hid hb3
                have Htab := Lib.hid htab
                clear hb3 htab
                go_wp2_with fail
                obtain ⟨X, hX⟩ : ∃ X, t.extract k t.size = X := ⟨_, rfl⟩
                rw [hX]
                obtain ⟨w5, hw5⟩ : ∃ w5, wr.alloc (.cells #[.string nm, .int .u64 ((unv j : Nat) : Int)] 87) = w5 := ⟨_, rfl⟩
                rw [hw5]
                have k0 : w5.cell? ⟨wr.heap.size, 0, none⟩ = some (.string nm) := by rw [← hw5]; simp
                have k1 : w5.cell? ⟨wr.heap.size, 1, none⟩ = some (.int .u64 ((unv j : Nat) : Int)) := by rw [← hw5]; simp
                have Hb5 := Lib.hid (show Below (w4.alloc tabU).heap.size (w4.alloc tabU) w5 by rw [← hw5]; exact Hb3.out.alloc Hb3.out.size _)
                clear hw5
                have hXl : bts X = U ++ R := by
                  rw [ER.out, ← hX, show bts (t.extract k t.size) = (bts t).drop k from Lib.extract_to_end t k, bts_drop t k hkt, HT.out]
                have HXl := Lib.hid hXl
                have HX := Lib.hid hX
                have hcs := um_cases (X := X) HNm.out
                clear hX hXl
                rcases hcs with ⟨hum, e1 | ⟨e1, e2⟩ | ⟨e1, e2, e3, e4, e5⟩⟩ | ⟨hum, e1, e2, e3 | ⟨e3, e4⟩ | ⟨e3, e4, e5⟩⟩
                · have hjn := un_later HUM.out HXl.out hum hjJ
                  clear hum
                  go_quiet (fail)
                  go_wp2
                  exact ⟨⟨rfl, rfl, j + 1, by go_num, hjn, below_drewN Hb5.out _⟩, by simp [intOf]; omega⟩
                · have hjn := un_later HUM.out HXl.out hum hjJ
                  clear hum
                  go_quiet (fail)
                  go_wp2
                  exact ⟨⟨rfl, rfl, j + 1, by go_num, hjn, below_drewN Hb5.out _⟩, by simp [intOf]; omega⟩
                · have hjn := un_later HUM.out HXl.out hum hjJ
                  have e6 : ((X[1].toNat : Int) == 115) = true := by rw [e5]; rfl
                  have e7 : (1 : Int) < (X.size : Int) := by omega
                  clear hum
                  go_quiet (fail)
                  go_wp2
                  exact ⟨⟨rfl, rfl, j + 1, by go_num, hjn, below_drewN Hb5.out _⟩, by simp [intOf]; omega⟩
                · have hjE := un_now HLE.out HXl.out hum hjJ
                  obtain ⟨hS0, fE, fE', fk⟩ := su_facts HNm.out hjE HNM.out HXl.out HTs.out HX.out H3.out H4.out HD.out hkt
                  clear hum
                  go_quiet (fail)
                  go_wp2
                  exact su_next HNm.out hjE HNM.out HNV.out HXl.out Hun.out.pos H6.out H8.out Hr.out Hu.out (un_le Hun.out) HX.out ht Hb.out Hb5.out hkt
                · have hjE := un_now HLE.out HXl.out hum hjJ
                  obtain ⟨hS0, fE, fE', fk⟩ := su_facts HNm.out hjE HNM.out HXl.out HTs.out HX.out H3.out H4.out HD.out hkt
                  have e7 : decide ((1 : Int) < (X.size : Int)) = false := by
                    rw [decide_eq_false_iff_not] at e4 ⊢
                    omega
                  clear hum
                  go_quiet (fail)
                  go_wp2
                  exact su_next HNm.out hjE HNM.out HNV.out HXl.out Hun.out.pos H6.out H8.out Hr.out Hu.out (un_le Hun.out) HX.out ht Hb.out Hb5.out hkt
                · have hjE := un_now HLE.out HXl.out hum hjJ
                  obtain ⟨hS0, fE, fE', fk⟩ := su_facts HNm.out hjE HNM.out HXl.out HTs.out HX.out H3.out H4.out HD.out hkt
                  have e6 : ((X[1].toNat : Int) == 115) = false := by
                    rw [beq_eq_false_iff_ne]
                    intro e
                    exact e5 (UInt8.toNat_inj.1 (by have t115 : (115 : UInt8).toNat = 115 := rfl; omega))
                  have e7 : (1 : Int) < (X.size : Int) := by omega
                  clear hum
                  go_quiet (fail)
                  go_wp2
                  exact su_next HNm.out hjE HNM.out HNV.out HXl.out Hun.out.pos H6.out H8.out Hr.out Hu.out (un_le Hun.out) HX.out ht Hb.out Hb5.out hkt
    | nil =>
      have ht0 : t.size = 0 := by simpa using hTs.symm
      have hne2 := isEmpty_true ht0
      obtain ⟨x, hx⟩ : ∃ x : Int, x = ((u - 0 : Nat) : Int) := ⟨_, rfl⟩
      have x1 : x < 9223372036854775808 := by omega
      have x2 : IntKind.i64.wrap x = x := by rw [IntKind.wrap_i64]; omega
      rw [← hx]
      have Hx := Lib.hid (show x = (u : Int) by omega)
      clear hb hT hTs ht hx ht0 hu
      go_wp2
      go_ret2
      exact ⟨by show Ending.returned (.tuple #[.int .i64 x, .bool true]) = _; rw [Hx.out], Hb.out⟩
end Go.Proofs.YtchmhdmapknmfaaGreatDoor
