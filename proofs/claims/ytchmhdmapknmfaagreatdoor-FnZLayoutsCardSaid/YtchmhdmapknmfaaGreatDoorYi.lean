/-
  Joined: Re Rf Rg Rh1 Rh2. (Joined by merge.py out of several texts.)
-/
import Derived.Test.YtchmhdmapknmfaaGreatDoorYh

/-
  The reference's part of a layout at a place: zChunk.
-/
namespace Go.Proofs.YtchmhdmapknmfaaGreatDoor
open Go.RowKit Ly
attribute [local go_sem ↓] Go.wp_at_zero Go.wp_at_succ

theorem run_in (d : UInt8) : ∀ (l : List UInt8) (n : Nat), n < run d l → ∃ r, l.drop n = d :: r
  | [], n, h => by simp [run] at h
  | c :: l, n, h => by
    unfold run at h
    split at h
    · rename_i e
      cases n with
      | zero => exact ⟨l, by rw [List.drop_zero, e]⟩
      | succ n =>
        rw [List.drop_succ_cons]
        exact run_in d l n (by omega)
    · omega
theorem run_out (d : UInt8) : ∀ (l : List UInt8) (r : List UInt8), l.drop (run d l) ≠ d :: r
  | [], r, h => by simp at h
  | c :: l, r, h => by
    unfold run at h
    split at h
    · rw [List.drop_succ_cons] at h
      exact run_out d l r h
    · rename_i e
      rw [List.drop_zero] at h
      exact e (List.cons.inj h).1

theorem zf_at (s : ByteArray) (i : Nat) (c : UInt8) (hi : i < s.size) : ∃ E, i + 1 ≤ E ∧ E ≤ s.size ∧ (∀ j, i + 1 ≤ j → j < E → ∃ (hs : j < s.size) (h1 : i + 1 < s.size), s[j] = s[i + 1] ∧ (s[j] = 48 ∨ s[j] = 57)) ∧
    (E = s.size ∨ ∃ (hE : E < s.size) (h1 : i + 1 < s.size), s[E] ≠ s[i + 1] ∨ (s[E] = s[i + 1] ∧ s[E] ≠ 48 ∧ s[E] ≠ 57)) ∧
    zf c ((bts s).drop (i + 1)) = if E = i + 1 then [] else if dig ((bts s).drop E) = true then [] else c :: ((bts s).drop (i + 1)).take (E - (i + 1)) := by
  by_cases h1 : i + 1 < s.size
  · have hd := bts_drop s (i + 1) h1
    by_cases h2 : s[i + 1] = 48 ∨ s[i + 1] = 57
    · obtain ⟨n, hn⟩ : ∃ n, n = run s[i + 1] ((bts s).drop (i + 1)) := ⟨_, rfl⟩
      have hn1 : 1 ≤ n := by
        rw [hn, hd]
        unfold run
        rw [if_pos rfl]
        omega
      have hle : n ≤ s.size - (i + 1) := by
        have := run_le s[i + 1] ((bts s).drop (i + 1))
        rw [List.length_drop, bts_length, ← hn] at this
        exact this
      refine ⟨i + 1 + n, by omega, by omega, fun j hj hjE => ?_, ?_, ?_⟩
      · have hjs : j < s.size := by omega
        obtain ⟨r, hr⟩ := run_in s[i + 1] ((bts s).drop (i + 1)) (j - (i + 1)) (by omega)
        rw [List.drop_drop, show i + 1 + (j - (i + 1)) = j by omega, bts_drop s j hjs] at hr
        have e := (List.cons.inj hr).1
        exact ⟨hjs, h1, e, by rw [e]; exact h2⟩
      · by_cases hE : i + 1 + n = s.size
        · exact .inl hE
        · have hE' : i + 1 + n < s.size := by omega
          refine .inr ⟨hE', h1, .inl fun e => ?_⟩
          have := run_out s[i + 1] ((bts s).drop (i + 1)) ((bts s).drop (i + 1 + n + 1))
          rw [← hn, List.drop_drop, bts_drop s (i + 1 + n) hE', e] at this
          exact this rfl
      · rw [if_neg (by omega), show i + 1 + n - (i + 1) = n by omega]
        rw [show (bts s).drop (i + 1 + n) = ((bts s).drop (i + 1)).drop n by rw [List.drop_drop]]
        rw [hd] at hn ⊢
        show (if s[i + 1] = 48 ∨ s[i + 1] = 57 then _ else _) = _
        rw [if_pos h2, ← hn]
    · refine ⟨i + 1, by omega, by omega, fun j hj hjE => by omega, .inr ⟨h1, h1, .inr ⟨rfl, fun e => h2 (.inl e), fun e => h2 (.inr e)⟩⟩, ?_⟩
      rw [if_pos rfl, hd]
      show (if s[i + 1] = 48 ∨ s[i + 1] = 57 then _ else _) = _
      rw [if_neg h2]
  · refine ⟨i + 1, by omega, by omega, fun j hj hjE => by omega, .inl (by omega), ?_⟩
    rw [if_pos rfl, List.drop_of_length_le (by rw [bts_length]; omega)]
    rfl

/-- How the test of a part comes out. -/
theorem ck_cases {x s : ByteArray} {i : Nat} {c : List UInt8} (hi : i ≤ s.size) (hx : bts x = c) :
    (fits ((bts s).drop i) c = false ∧ ((s.size : Int) - (i : Int) < (x.size : Int) ∨
      ((x.size : Int) ≤ (s.size : Int) - (i : Int) ∧ ((s.extract i (i + x.size)).toList == x.toList) = false) ∨
      ((x.size : Int) ≤ (s.size : Int) - (i : Int) ∧ ((s.extract i (i + x.size)).toList == x.toList) = true ∧ ((x.toList == [74, 97, 110]) = true ∨ ((x.toList == [74, 97, 110]) = false ∧ (x.toList == [77, 111, 110]) = true)) ∧
        ∃ h : i + x.size < s.size, (97 : Int) ≤ (s[i + x.size].toNat : Int) ∧ (s[i + x.size].toNat : Int) ≤ 122))) ∨
    (fits ((bts s).drop i) c = true ∧ (x.size : Int) ≤ (s.size : Int) - (i : Int) ∧ ((s.extract i (i + x.size)).toList == x.toList) = true ∧
      (((x.toList == [74, 97, 110]) = false ∧ (x.toList == [77, 111, 110]) = false) ∨
        (((x.toList == [74, 97, 110]) = true ∨ ((x.toList == [74, 97, 110]) = false ∧ (x.toList == [77, 111, 110]) = true)) ∧
          (i + x.size = s.size ∨ (∃ h : i + x.size < s.size, (s[i + x.size].toNat : Int) < 97) ∨ (∃ h : i + x.size < s.size, (97 : Int) ≤ (s[i + x.size].toNat : Int) ∧ (122 : Int) < (s[i + x.size].toNat : Int)))))) := by
  have e1 : x.toList = c := by rw [← hx]; exact Lib.toList_data x
  have e2 : x.size = c.length := by rw [← hx, bts_length]
  unfold fits
  rw [e1]
  by_cases hle : x.size ≤ s.size - i
  · have hle' : (x.size : Int) ≤ (s.size : Int) - (i : Int) := by omega
    rw [sub_pre s i x.size c e2 (by omega)]
    cases hp : pre c ((bts s).drop i) with
    | false => exact .inl ⟨rfl, .inr (.inl ⟨hle', rfl⟩)⟩
    | true =>
      have hlow : c.length = 3 → ∀ h : i + x.size < s.size, low (((bts s).drop i).drop 3) = (decide (97 ≤ s[i + x.size].toNat) && decide (s[i + x.size].toNat ≤ 122)) := by
        intro h3 h
        rw [List.drop_drop, show i + 3 = i + x.size by omega, bts_drop s (i + x.size) h]
        rfl
      have hlow0 : c.length = 3 → i + x.size = s.size → low (((bts s).drop i).drop 3) = false := by
        intro h3 h
        rw [List.drop_drop, show i + 3 = i + x.size by omega, List.drop_of_length_le (by rw [bts_length]; omega)]
        rfl
      have key : ∀ J : (c == [74, 97, 110]) = true ∨ ((c == [74, 97, 110]) = false ∧ (c == [77, 111, 110]) = true), c.length = 3 ∧ ((c == [74, 97, 110]) || (c == [77, 111, 110])) = true := by
        intro J
        rcases J with J | ⟨J1, J2⟩
        · exact ⟨by rw [beq_iff_eq.1 J]; rfl, by rw [J]; rfl⟩
        · exact ⟨by rw [beq_iff_eq.1 J2]; rfl, by rw [J2, Bool.or_true]⟩
      have all : ((c == [74, 97, 110]) = true ∨ ((c == [74, 97, 110]) = false ∧ (c == [77, 111, 110]) = true)) ∨ ((c == [74, 97, 110]) = false ∧ (c == [77, 111, 110]) = false) := by
        cases (c == [74, 97, 110]) <;> cases (c == [77, 111, 110]) <;> simp
      rcases all with J | ⟨J1, J2⟩
      · obtain ⟨h3, hor⟩ := key J
        rw [hor]
        by_cases hE : i + x.size = s.size
        · rw [hlow0 h3 hE]
          exact .inr ⟨rfl, hle', rfl, .inr ⟨J, .inl hE⟩⟩
        · have hE' : i + x.size < s.size := by omega
          rw [hlow h3 hE']
          by_cases k1 : 97 ≤ s[i + x.size].toNat
          · by_cases k2 : s[i + x.size].toNat ≤ 122
            · rw [decide_eq_true k1, decide_eq_true k2]
              exact .inl ⟨rfl, .inr (.inr ⟨hle', rfl, J, hE', by omega, by omega⟩)⟩
            · rw [decide_eq_true k1, decide_eq_false k2]
              exact .inr ⟨rfl, hle', rfl, .inr ⟨J, .inr (.inr ⟨hE', by omega, by omega⟩)⟩⟩
          · rw [decide_eq_false k1]
            exact .inr ⟨rfl, hle', rfl, .inr ⟨J, .inr (.inl ⟨hE', by omega⟩)⟩⟩
      · rw [J1, J2]
        exact .inr ⟨rfl, hle', rfl, .inl ⟨rfl, rfl⟩⟩
  · rw [pre_short c _ (by rw [List.length_drop, bts_length]; omega)]
    exact .inl ⟨rfl, .inl (by omega)⟩

/-- What the loop over noughts or nines keeps. -/
def ZfRel (i E : Nat) (w0 : World) (v6 : Value) (wr : World) : Prop := ∃ j : Nat, v6 = .int .i64 (j : Int) ∧ i + 1 ≤ j ∧ j ≤ E ∧ Below w0.heap.size w0 wr

set_option maxRecDepth 100000 in
set_option maxHeartbeats 8000000 in
theorem chunk_dot (s : ByteArray) (i : Nat) (hi : i < s.size) (hs : s.size ≤ 1000) (hc : s[i] = 46 ∨ s[i] = 44) (w : World) :
    Calls Tryz.prog 53 #[.string s, .int .i64 (i : Int)] w fun r w' => ∃ x : ByteArray, r = .returned (.string x) ∧ bts x = zc ((bts s).drop i) ∧ Below w.heap.size w w' := by
  obtain ⟨E, e1, e2, e3, e4, e5⟩ := zf_at s i s[i] hi
  have hz : zc ((bts s).drop i) = zf s[i] ((bts s).drop (i + 1)) := by
    rw [bts_drop s i hi]
    show (if s[i] = 46 ∨ s[i] = 44 then _ else _) = _
    rw [if_pos hc]
  rw [e5] at hz
  have Hz := Lib.hid hz
  have hi' : (i : Int) < (s.size : Int) := by omega
  have hs' : (s.size : Int) ≤ 1000 := by omega
  have key : ((s[i].toNat : Int) == 46) = true ∨ (((s[i].toNat : Int) == 46) = false ∧ ((s[i].toNat : Int) == 44) = true) := by
    rcases hc with h | h
    · exact .inl (by rw [h]; rfl)
    · exact .inr ⟨by rw [h]; rfl, by rw [h]; rfl⟩
  have Hfin : Hid (s[i] :: ((bts s).drop (i + 1)).take (E - (i + 1)) = bts (s.extract i E)) := by
    show _ = _
    rw [bts_extract, bts_drop s i hi, show E - i = E - (i + 1) + 1 by omega, List.take_succ_cons]
  have E3 := Lib.hid e3
  have E4 := Lib.hid e4
  have hw : IntKind.i64.wrap ((i : Int) + 1) = (i : Int) + 1 := by rw [IntKind.wrap_i64]; omega
  have hi0 : (0 : Int) ≤ (i : Int) + 1 := by omega
  clear hz e5 e3 e4 hc
  rcases key with f1 | ⟨f1, f2⟩
  all_goals
    go_enter Tryz.func53, Tryz.ntmps53
    go_wp2_with fail
    go_loopw [6] (fun v6 wr => ZfRel i E w v6 wr) (fun v6 _ => s.size - (intOf v6).toNat)
    case atStart => exact ⟨i + 1, by go_num, Nat.le_refl _, e1, Below.refl _ _⟩
    case round =>
      obtain ⟨j, rfl, hj1, hj2, hb⟩ := hrel
      have Hb := Lib.hid hb
      clear hb
      by_cases hjE : j < E
      · obtain ⟨hjs, h1, hv, hv2⟩ := E3.out j hj1 hjE
        have hjs' : (j : Int) < (s.size : Int) := by omega
        have h1' : (i : Int) + 1 < (s.size : Int) := by omega
        have g1 : ((s[j].toNat : Int) == (s[i + 1].toNat : Int)) = true := by rw [hv]; exact beq_self_eq_true _
        have g2 : ((s[j].toNat : Int) == 48) = true ∨ (((s[j].toNat : Int) == 48) = false ∧ ((s[j].toNat : Int) == 57) = true) := by
          rcases hv2 with h | h
          · exact .inl (by rw [h]; rfl)
          · exact .inr ⟨by rw [h]; rfl, by rw [h]; rfl⟩
        clear hv hv2
        rcases g2 with g2 | ⟨g2, g3⟩
        all_goals
          go_wp2_with fail
          go_quiet (fail)
          go_wp2
          exact ⟨⟨j + 1, by go_num, by omega, by omega, below_drewN Hb.out _⟩, by simp [intOf]; omega⟩
      · obtain rfl : j = E := by omega
        by_cases hj0 : j = i + 1
        · have Hz0 : Hid (zc ((bts s).drop i) = []) := by
            show _ = _
            rw [Hz.out, if_pos hj0]
          have hj0' : (j : Int) ≤ (i : Int) + 1 := by omega
          have E4' := E4.out
          clear hj1 hj2 e1 e2
          rcases E4' with h | ⟨h, h1, h2 | ⟨h2, h3, h4⟩⟩
          · have hjs : (s.size : Int) ≤ (j : Int) := by omega
            have hjd : decide (j < s.size) = false := decide_eq_false (by omega)
            clear h hj0 hjE
            go_wp2_with fail
            go_quiet (fail)
            go_wp2
            go_ret
            exact ⟨⟨#[]⟩, rfl, by rw [Hz0.out], below_drewN Hb.out _⟩
          · have hjs : (j : Int) < (s.size : Int) := by omega
            have h1' : (i : Int) + 1 < (s.size : Int) := by omega
            have g1 : ((s[j].toNat : Int) == (s[i + 1].toNat : Int)) = false := bF h2
            clear h2 hj0 hjE
            go_wp2_with fail
            go_quiet (fail)
            go_wp2
            go_ret
            exact ⟨⟨#[]⟩, rfl, by rw [Hz0.out], below_drewN Hb.out _⟩
          · have hjs : (j : Int) < (s.size : Int) := by omega
            have h1' : (i : Int) + 1 < (s.size : Int) := by omega
            have g1 : ((s[j].toNat : Int) == (s[i + 1].toNat : Int)) = true := by rw [h2]; exact beq_self_eq_true _
            have g2 : ((s[j].toNat : Int) == 48) = false := bF h3
            have g3 : ((s[j].toNat : Int) == 57) = false := bF h4
            clear h2 h3 h4 hj0 hjE
            go_wp2_with fail
            go_quiet (fail)
            go_wp2
            go_ret
            exact ⟨⟨#[]⟩, rfl, by rw [Hz0.out], below_drewN Hb.out _⟩
        · have hj0' : (i : Int) + 1 < (j : Int) := by omega
          have hjle : (j : Int) ≤ (s.size : Int) := by omega
          have hij : (i : Int) ≤ (j : Int) := by omega
          have Hz1 : Hid (zc ((bts s).drop i) = if dig ((bts s).drop j) = true then [] else bts (s.extract i j)) := by
            show _ = _
            rw [Hz.out, if_neg hj0, Hfin.out]
          have E4' := E4.out
          clear hj1 hj2 e1 e2
          rcases E4' with h | ⟨h, h1, h2⟩
          · have hjs : (s.size : Int) ≤ (j : Int) := by omega
            have hjd : decide (j < s.size) = false := decide_eq_false (by omega)
            have Hz2 : Hid (zc ((bts s).drop i) = bts (s.extract i j)) := by
              show _ = _
              rw [Hz1.out, List.drop_of_length_le (by rw [bts_length]; omega)]
              rfl
            have Hjs := Lib.hid h
            clear h hj0 hjE
            go_wp2_with fail
            go_quiet (fail)
            go_wp2
            go_ret
            exact ⟨_, rfl, by rw [Hz2.out, Hjs.out], below_drewN Hb.out _⟩
          · have hjs : (j : Int) < (s.size : Int) := by omega
            have h1' : (i : Int) + 1 < (s.size : Int) := by omega
            have hdig : dig ((bts s).drop j) = (decide (48 ≤ s[j].toNat) && decide (s[j].toNat ≤ 57)) := by rw [bts_drop s j h]; rfl
            have k9 : (((s[j].toNat : Int) == (s[i + 1].toNat : Int)) = false) ∨ (((s[j].toNat : Int) == (s[i + 1].toNat : Int)) = true ∧ ((s[j].toNat : Int) == 48) = false ∧ ((s[j].toNat : Int) == 57) = false) := by
              rcases h2 with h2 | ⟨h2, h3, h4⟩
              · exact .inl (bF h2)
              · exact .inr ⟨by rw [h2]; exact beq_self_eq_true _, bF h3, bF h4⟩
            have k10 : ((s[j].toNat : Int) < 48 ∧ dig ((bts s).drop j) = false) ∨ ((48 : Int) ≤ (s[j].toNat : Int) ∧ (57 : Int) < (s[j].toNat : Int) ∧ dig ((bts s).drop j) = false) ∨ ((48 : Int) ≤ (s[j].toNat : Int) ∧ (s[j].toNat : Int) ≤ 57 ∧ dig ((bts s).drop j) = true) := by
              rw [hdig]
              by_cases q1 : 48 ≤ s[j].toNat
              · by_cases q2 : s[j].toNat ≤ 57
                · exact .inr (.inr ⟨by omega, by omega, by rw [decide_eq_true q1, decide_eq_true q2]; rfl⟩)
                · exact .inr (.inl ⟨by omega, by omega, by rw [decide_eq_false q2, Bool.and_false]⟩)
              · exact .inl ⟨by omega, by rw [decide_eq_false q1, Bool.false_and]⟩
            have hjn : ((j : Int) == (s.size : Int)) = false := beq_eq_false_iff_ne.2 (by omega)
            clear h2 hj0 hjE hdig
            rcases k9 with g1 | ⟨g1, g2, g3⟩
            all_goals
              rcases k10 with ⟨p1, hdg⟩ | ⟨p1, p2, hdg⟩ | ⟨p1, p2, hdg⟩
              all_goals
                have Hdg := Lib.hid hdg
                clear hdg
                go_wp2_with fail
                go_quiet (fail)
                go_wp2
                go_ret
                first
                  | exact ⟨_, rfl, by first | (rw [Hz1.out, Hdg.out]; rfl) | rw [Hz1.out, Hdg.out], below_drewN Hb.out _⟩
                  | exact ⟨⟨#[]⟩, rfl, by first | (rw [Hz1.out, Hdg.out]; rfl) | rw [Hz1.out, Hdg.out], below_drewN Hb.out _⟩
end Go.Proofs.YtchmhdmapknmfaaGreatDoor

/-
  The reference's part of a layout at a place: the names and numbers.
-/
namespace Go.Proofs.YtchmhdmapknmfaaGreatDoor
open Go.RowKit Ly
attribute [local go_sem ↓] Go.wp_at_zero Go.wp_at_succ

/-- What the loop over the parts keeps. -/
def CkRel (l : List UInt8) (w0 : World) (v : Value) (wr : World) : Prop :=
  ∃ j : Nat, v = .int .i64 (j : Int) ∧ j ≤ 33 ∧ zc l = ((chunks.drop j).find? (fits l)).getD [] ∧ Below w0.heap.size w0 wr

theorem zc_under {s : ByteArray} {i : Nat} (hi : i < s.size) (h1 : s[i] ≠ 46) (h2 : s[i] ≠ 44) (h : pre [95, 50, 48, 48, 54] ((bts s).drop i) = true) : zc ((bts s).drop i) = [] := by
  rw [bts_drop s i hi] at h ⊢
  show (if s[i] = 46 ∨ s[i] = 44 then _ else if pre [95, 50, 48, 48, 54] (s[i] :: (bts s).drop (i + 1)) = true then [] else _) = _
  rw [if_neg (by intro e; rcases e with e | e <;> contradiction), if_pos h]
theorem zc_names {s : ByteArray} {i : Nat} (hi : i < s.size) (h1 : s[i] ≠ 46) (h2 : s[i] ≠ 44) (h : pre [95, 50, 48, 48, 54] ((bts s).drop i) = false) : zc ((bts s).drop i) = (chunks.find? (fits ((bts s).drop i))).getD [] := by
  rw [bts_drop s i hi] at h ⊢
  show (if s[i] = 46 ∨ s[i] = 44 then _ else if pre [95, 50, 48, 48, 54] (s[i] :: (bts s).drop (i + 1)) = true then [] else _) = _
  rw [if_neg (by intro e; rcases e with e | e <;> contradiction), if_neg (by rw [h]; decide)]

theorem chunks_le {c : List UInt8} (h : c ∈ chunks) : 1 ≤ c.length ∧ c.length ≤ 10 := by
  have t : chunks.all (fun x => decide (1 ≤ x.length) && decide (x.length ≤ 10)) = true := by decide
  have := List.all_eq_true.1 t c h
  simpa using this

set_option maxRecDepth 100000 in
set_option maxHeartbeats 8000000 in
theorem chunk_names (s : ByteArray) (i : Nat) (hi : i < s.size) (hs : s.size ≤ 1000) (hc1 : s[i] ≠ 46) (hc2 : s[i] ≠ 44) (w : World) (hT : NameTab 0 chunks w.heap.size w) :
    Calls Tryz.prog 53 #[.string s, .int .i64 (i : Int)] w fun r w' => ∃ x : ByteArray, r = .returned (.string x) ∧ bts x = zc ((bts s).drop i) ∧ Below w.heap.size w w' := by
  have hi' : (i : Int) < (s.size : Int) := by omega
  have hs' : (s.size : Int) ≤ 1000 := by omega
  have f1 : ((s[i].toNat : Int) == 46) = false := bF hc1
  have f2 : ((s[i].toNat : Int) == 44) = false := bF hc2
  have hw5 : IntKind.i64.wrap ((i : Int) + 5) = (i : Int) + 5 := by rw [IntKind.wrap_i64]; omega
  have hi0 : (0 : Int) ≤ (i : Int) + 5 := by omega
  have hsub5 : i + 5 ≤ s.size → ((s.extract i (i + 5)).toList == [95, 50, 48, 48, 54]) = pre [95, 50, 48, 48, 54] ((bts s).drop i) := fun h => sub_pre s i 5 [95, 50, 48, 48, 54] rfl h
  have key : (i + 5 ≤ s.size ∧ pre [95, 50, 48, 48, 54] ((bts s).drop i) = true) ∨ (pre [95, 50, 48, 48, 54] ((bts s).drop i) = false ∧ ((5 : Int) ≤ (s.size : Int) - (i : Int) ∧ (i : Int) + 5 ≤ (s.size : Int) ∧ ((s.extract i (i + 5)).toList == [95, 50, 48, 48, 54]) = false ∨ (s.size : Int) - (i : Int) < 5)) := by
    by_cases h5 : i + 5 ≤ s.size
    · cases hu : pre [95, 50, 48, 48, 54] ((bts s).drop i) with
      | true => exact .inl ⟨h5, rfl⟩
      | false => exact .inr ⟨rfl, .inl ⟨by omega, by omega, by rw [hsub5 h5, hu]⟩⟩
    · exact .inr ⟨pre_short _ _ (by rw [List.length_drop, bts_length]; simp; omega), .inr (by omega)⟩
  rcases key with ⟨h5, hu⟩ | ⟨hu, key⟩
  · have h5' : (5 : Int) ≤ (s.size : Int) - (i : Int) := by omega
    have h5'' : (i : Int) + 5 ≤ (s.size : Int) := by omega
    have hsub := hsub5 h5
    have Hz := Lib.hid (zc_under hi hc1 hc2 hu)
    rw [hu] at hsub
    clear hc1 hc2 hT hu h5 hsub5
    go_enter Tryz.func53, Tryz.ntmps53
    go_wp2
    go_ret
    exact ⟨⟨#[]⟩, rfl, by rw [Hz.out], Below.refl _ _⟩
  · have Hz := Lib.hid (zc_names hi hc1 hc2 hu)
    obtain ⟨q, o, c, t1, t2, t3, t4⟩ := hT
    have T := Lib.hid (And.intro t3 t4)
    rw [show chunks.length = 33 from rfl] at t1
    clear hc1 hc2 hu t4 hsub5 t2 t3
    rcases key with ⟨k1, k2, k3⟩ | k1
    all_goals
      go_enter Tryz.func53, Tryz.ntmps53
      go_wp2_with fail
      go_loopw [8, 9, 90] (fun v8 v9 v wr => CkRel ((bts s).drop i) w v wr) (fun _ _ v _ => 33 - (intOf v).toNat)
      case atStart => exact ⟨0, rfl, by omega, Hz.out, Below.refl _ _⟩
      case round =>
        obtain ⟨j, rfl, hj33, hz, hb⟩ := hrel
        have Hb := Lib.hid hb
        by_cases hj : j < 33
        · have hjl : j < chunks.length := hj
          obtain ⟨x, hx⟩ : ∃ x : ByteArray, x = ⟨(chunks[j]).toArray⟩ := ⟨_, rfl⟩
          have hbx : bts x = chunks[j] := by rw [hx]
          have d0 : wr.cell? ⟨q, o + j, none⟩ = some (.string x) := by
            rw [hb.cell T.out.1, hx]
            exact T.out.2 j hjl
          have hdr : chunks.drop j = chunks[j] :: chunks.drop (j + 1) := List.drop_eq_getElem_cons hjl
          rw [hdr, find_if] at hz
          have hle := chunks_le (List.getElem_mem hjl)
          rw [← hbx, bts_length] at hle
          have hx0 : (1 : Int) ≤ (x.size : Int) := by omega
          have hx1 : (x.size : Int) ≤ 10 := by omega
          have hj' : (j : Int) < 33 := by omega
          have hwx : IntKind.i64.wrap ((i : Int) + (x.size : Int)) = (i : Int) + (x.size : Int) := by rw [IntKind.wrap_i64]; omega
          have hwx0 : (0 : Int) ≤ (i : Int) + (x.size : Int) := by omega
          have hcs := ck_cases (s := s) (i := i) (by omega) hbx
          have Hbx := Lib.hid hbx
          have Hz2 := Lib.hid hz
          clear hb hx hbx hdr hle hz
          rcases hcs with ⟨hf, hcs⟩ | ⟨hf, m1, m2, hcs⟩
          · have Hz3 : Hid (zc ((bts s).drop i) = ((chunks.drop (j + 1)).find? (fits ((bts s).drop i))).getD []) := by
              show _ = _
              rw [Hz2.out, hf, if_neg (by decide)]
            clear hf
            rcases hcs with m1 | ⟨m1, m2⟩ | ⟨m1, m2, m3 | ⟨m3, m4⟩, m5, m6, m7⟩
            · go_wp2
              exact ⟨⟨j + 1, by go_num, by omega, Hz3.out, Hb.out⟩, by simp [intOf]; omega⟩
            · have m8 : (i : Int) + (x.size : Int) ≤ (s.size : Int) := by omega
              go_wp2
              exact ⟨⟨j + 1, by go_num, by omega, Hz3.out, Hb.out⟩, by simp [intOf]; omega⟩
            all_goals
              have m8 : (i : Int) + (x.size : Int) ≤ (s.size : Int) := by omega
              have m9 : (i : Int) + (x.size : Int) < (s.size : Int) := by omega
              go_wp2
              exact ⟨⟨j + 1, by go_num, by omega, Hz3.out, Hb.out⟩, by simp [intOf]; omega⟩
          · have Hz3 : Hid (zc ((bts s).drop i) = bts x) := by
              show _ = _
              rw [Hz2.out, hf, if_pos rfl, Hbx.out]
              rfl
            have m8 : (i : Int) + (x.size : Int) ≤ (s.size : Int) := by omega
            clear hf
            rcases hcs with ⟨m3, m4⟩ | ⟨m3 | ⟨m3, m4⟩, m5 | ⟨m5, m6⟩ | ⟨m5, m6, m7⟩⟩
            · go_wp2
              go_ret
              exact ⟨x, rfl, Hz3.out.symm, Hb.out⟩
            all_goals
              first
                | (have m9 : (s.size : Int) ≤ (i : Int) + (x.size : Int) := by omega
                   have m10 : ¬ (i + x.size < s.size) := by omega
                   have m11 : ¬ ((i : Int) + (x.size : Int) < (s.size : Int)) := by omega
                   clear m5)
                | (have m9 : (i : Int) + (x.size : Int) < (s.size : Int) := by omega)
              go_wp2
              first
                | (go_ret; exact ⟨x, rfl, Hz3.out.symm, Hb.out⟩)
                | trace_state
        · have hj' : (33 : Int) ≤ (j : Int) := by omega
          have Hz2 : Hid (zc ((bts s).drop i) = []) := by
            show _ = _
            rw [hz, show j = 33 by omega]
            rfl
          clear hb hz
          go_wp2
          go_ret
          exact ⟨⟨#[]⟩, rfl, by rw [Hz2.out], Hb.out⟩
end Go.Proofs.YtchmhdmapknmfaaGreatDoor

/-
  zWritten: the frame at its switch (printed by gen_Rg.py).
-/
namespace Go.Proofs.YtchmhdmapknmfaaGreatDoor
open Go.RowKit Ly


/-- The frame at the switch. -/
def Wt (x : ByteArray) (p3 p4 q7 : Nat) (yd hf : Int) (wk : ByteArray) (a : Act) : Prop := ∃ f : Nat → Value, a = ⟨#[f 0, f 1, .string x, .pointer (some ⟨p3, 0, none⟩), .pointer (some ⟨p4, 0, none⟩), f 5, .string ⟨#[]⟩, .slice (some ⟨q7, 0, none⟩) 12 12, f 8, f 9, f 10, .int .i64 yd, .string wk, .int .i64 hf, f 14, f 15, f 16, f 17, f 18, f 19, f 20, f 21, f 22, f 23, f 24, f 25, f 26, f 27, f 28, f 29, f 30, f 31, f 32, f 33, f 34, f 35, f 36, f 37, f 38, f 39, f 40, f 41, f 42, f 43, f 44, f 45, f 46, f 47, f 48, f 49, f 50, f 51, f 52, f 53, f 54, f 55, f 56, f 57, f 58, f 59, f 60, f 61, f 62, f 63, f 64, f 65, f 66, f 67, f 68, f 69, f 70, f 71, f 72, f 73, f 74, f 75, f 76, f 77, f 78, f 79, f 80, f 81, f 82, f 83, f 84, f 85, f 86, f 87, f 88, f 89, f 90, f 91, f 92, f 93, f 94, f 95, f 96, f 97, f 98, f 99, f 100, f 101, f 102, f 103, f 104, f 105, f 106, f 107, f 108, f 109, f 110, f 111, f 112, f 113, f 114, f 115, f 116, f 117, f 118, f 119, f 120, f 121, f 122, f 123, f 124, f 125, f 126, f 127, f 128, f 129, f 130, f 131, f 132, f 133, f 134, f 135, f 136, f 137, f 138, f 139, f 140, f 141, f 142, f 143, f 144, f 145, f 146, f 147, f 148, f 149, f 150, f 151, f 152, f 153, f 154, f 155, f 156, f 157, f 158, f 159, f 160, f 161, f 162, f 163, f 164, f 165, f 166, f 167, f 168, f 169, f 170, f 171, f 172, f 173, f 174, f 175, f 176, f 177, f 178, f 179, f 180, f 181, f 182, f 183, f 184, f 185, f 186, f 187, f 188, f 189, f 190, f 191, f 192, f 193, f 194, f 195, f 196, f 197, f 198, f 199, f 200, f 201, f 202, f 203, f 204, f 205, f 206, f 207, f 208, f 209, f 210, f 211, f 212, f 213, f 214, f 215, f 216, f 217, f 218, f 219, f 220, f 221, f 222, f 223, f 224, f 225, f 226, f 227, f 228, f 229, f 230, f 231, f 232], []⟩

def wtRow (x2 x3 x4 x6 x7 x11 x12 x13 : Value) (f : Nat → Value) : List Value := [f 0, f 1, x2, x3, x4, f 5, x6, x7, f 8, f 9, f 10, x11, x12, x13, f 14, f 15, f 16, f 17, f 18, f 19, f 20, f 21, f 22, f 23, f 24, f 25, f 26, f 27, f 28, f 29, f 30, f 31, f 32, f 33, f 34, f 35, f 36, f 37, f 38, f 39, f 40, f 41, f 42, f 43, f 44, f 45, f 46, f 47, f 48, f 49, f 50, f 51, f 52, f 53, f 54, f 55, f 56, f 57, f 58, f 59, f 60, f 61, f 62, f 63, f 64, f 65, f 66, f 67, f 68, f 69, f 70, f 71, f 72, f 73, f 74, f 75, f 76, f 77, f 78, f 79, f 80, f 81, f 82, f 83, f 84, f 85, f 86, f 87, f 88, f 89, f 90, f 91, f 92, f 93, f 94, f 95, f 96, f 97, f 98, f 99, f 100, f 101, f 102, f 103, f 104, f 105, f 106, f 107, f 108, f 109, f 110, f 111, f 112, f 113, f 114, f 115, f 116, f 117, f 118, f 119, f 120, f 121, f 122, f 123, f 124, f 125, f 126, f 127, f 128, f 129, f 130, f 131, f 132, f 133, f 134, f 135, f 136, f 137, f 138, f 139, f 140, f 141, f 142, f 143, f 144, f 145, f 146, f 147, f 148, f 149, f 150, f 151, f 152, f 153, f 154, f 155, f 156, f 157, f 158, f 159, f 160, f 161, f 162, f 163, f 164, f 165, f 166, f 167, f 168, f 169, f 170, f 171, f 172, f 173, f 174, f 175, f 176, f 177, f 178, f 179, f 180, f 181, f 182, f 183, f 184, f 185, f 186, f 187, f 188, f 189, f 190, f 191, f 192, f 193, f 194, f 195, f 196, f 197, f 198, f 199, f 200, f 201, f 202, f 203, f 204, f 205, f 206, f 207, f 208, f 209, f 210, f 211, f 212, f 213, f 214, f 215, f 216, f 217, f 218, f 219, f 220, f 221, f 222, f 223, f 224, f 225, f 226, f 227, f 228, f 229, f 230, f 231, f 232]
theorem wtRow_eq (f : Nat → Value) : (List.range 233).map f = wtRow (f 2) (f 3) (f 4) (f 6) (f 7) (f 11) (f 12) (f 13) f := by kernel_rfl

theorem wt_of {x wk : ByteArray} {p3 p4 q7 : Nat} {yd hf : Int}  {R : Array Value} (h1 : R.size = 233) (hR : [R.getD 2 undef, R.getD 3 undef, R.getD 4 undef, R.getD 6 undef, R.getD 7 undef, R.getD 11 undef, R.getD 12 undef, R.getD 13 undef] = [.string x, .pointer (some ⟨p3, 0, none⟩), .pointer (some ⟨p4, 0, none⟩), .string ⟨#[]⟩, .slice (some ⟨q7, 0, none⟩) 12 12, .int .i64 yd, .string wk, .int .i64 hf]) : Wt x p3 p4 q7 yd hf wk ⟨R, []⟩ := by
  simp only [List.cons.injEq, and_true] at hR
  obtain ⟨e2, e3, e4, e6, e7, e11, e12, e13⟩ := hR
  refine ⟨fun n => R.getD n undef, ?_⟩
  have e : R = (wtRow (.string x) (.pointer (some ⟨p3, 0, none⟩)) (.pointer (some ⟨p4, 0, none⟩)) (.string ⟨#[]⟩) (.slice (some ⟨q7, 0, none⟩) 12 12) (.int .i64 yd) (.string wk) (.int .i64 hf) (fun n => R.getD n undef)).toArray := by
    have ee := wtRow_eq (fun n => R.getD n undef)
    rw [e2, e3, e4, e6, e7, e11, e12, e13] at ee
    rw [← ee]
    apply Array.ext
    · simp [h1]
    · intro i hi hi2
      simp [Array.getD, hi]
  exact congrArg (fun x => (⟨x, []⟩ : Act)) e

/-- The code from the switch on. -/
noncomputable def wtTail : Code := match Tryz.f54.body with
  | some (.seq _ (.seq _ (.seq _ (.seq _ (.seq _ (.seq _ (.seq _ (.seq _ c)))))))) => c
  | _ => .skip

/-- What holds at the switch. -/
structure WtCtx (w0 : World) (p3 p4 q7 : Nat) (off : Int) (Z : ByteArray) (yd hf : Int) (wk : ByteArray) (m : Mo) (W : World) : Prop where
  ok : m.Ok
  hoff : off = m.off
  zone : m.zone = bts Z
  hyd : yd = (m.yd : Int)
  hhf : hf = ((half m.h : Nat) : Int)
  hwk : bts wk = dayNames.getD m.wd []
  hp : Pow W
  hH : 11 ≤ W.heap.size
  below : Below w0.heap.size w0 W
  off3 : W.cell? ⟨p3, 2, none⟩ = some (.int .i64 off)
  zone3 : W.cell? ⟨p3, 3, none⟩ = some (.string Z)
  c0 : W.cell? ⟨p4, 0, none⟩ = some (.int .i64 (m.y : Int))
  c1 : W.cell? ⟨p4, 1, none⟩ = some (.int .i64 (m.mo : Int))
  c2 : W.cell? ⟨p4, 2, none⟩ = some (.int .i64 (m.d : Int))
  c3 : W.cell? ⟨p4, 3, none⟩ = some (.int .i64 (m.h : Int))
  c4 : W.cell? ⟨p4, 4, none⟩ = some (.int .i64 (m.mi : Int))
  c5 : W.cell? ⟨p4, 5, none⟩ = some (.int .i64 (m.s : Int))
  c6 : W.cell? ⟨p4, 6, none⟩ = some (.int .i64 (m.na : Int))
  mon : ∀ i, i < 12 → W.cell? ⟨q7, i, none⟩ = some (.string ⟨(monthNames.getD i []).toArray⟩)

theorem half_le (h : Nat) : half h ≤ 12 := by
  unfold half
  split <;> omega
theorem pad0 (n : Nat) : pad 0 n = dn n [] := by
  unfold pad
  rw [Nat.zero_sub]
  rfl
theorem cons_ne {c a : UInt8} {l p : List UInt8} (h : c ≠ a) : ((c :: l) == (a :: p)) = false := by
  rw [beq_eq_false_iff_ne]
  intro e
  exact h (List.cons.inj e).1

/-- What no part of the switch is. -/
theorem sw_no {x : ByteArray} {l : List UInt8} (e : x.toList = l) (h : ([[74, 97, 110, 117, 97, 114, 121], [74, 97, 110], [49], [48, 49], [77, 111, 110, 100, 97, 121], [77, 111, 110], [50], [95, 50], [48, 50], [48, 48, 50], [95, 95, 50], [50, 48, 48, 54], [48, 54], [49, 53], [51], [48, 51], [52], [48, 52], [53], [48, 53], [80, 77], [112, 109], [77, 83, 84]].all fun k => !(l == k)) = true) : (x.toList == [74, 97, 110, 117, 97, 114, 121]) = false ∧ (x.toList == [74, 97, 110]) = false ∧ (x.toList == [49]) = false ∧ (x.toList == [48, 49]) = false ∧ (x.toList == [77, 111, 110, 100, 97, 121]) = false ∧ (x.toList == [77, 111, 110]) = false ∧ (x.toList == [50]) = false ∧ (x.toList == [95, 50]) = false ∧ (x.toList == [48, 50]) = false ∧ (x.toList == [48, 48, 50]) = false ∧ (x.toList == [95, 95, 50]) = false ∧ (x.toList == [50, 48, 48, 54]) = false ∧ (x.toList == [48, 54]) = false ∧ (x.toList == [49, 53]) = false ∧ (x.toList == [51]) = false ∧ (x.toList == [48, 51]) = false ∧ (x.toList == [52]) = false ∧ (x.toList == [48, 52]) = false ∧ (x.toList == [53]) = false ∧ (x.toList == [48, 53]) = false ∧ (x.toList == [80, 77]) = false ∧ (x.toList == [112, 109]) = false ∧ (x.toList == [77, 83, 84]) = false := by
  rw [e]
  simpa only [List.all_cons, List.all_nil, Bool.and_eq_true, Bool.not_eq_true', and_true] using h

/-- How a case ends. -/
def WtEnd (w0 : World) (T : List UInt8) (Q : Exit → Act → World → Prop) : Prop := ∀ (a' : Act) (w' : World) (s : ByteArray), a'.tmps.getD 6 undef = .string s → a'.defers = [] → bts s = T → Below w0.heap.size w0 w' → Q .ret a' w'

end Go.Proofs.YtchmhdmapknmfaaGreatDoor

/-
  zWritten: what each part stands for (printed by gen_Rg.py).
-/
namespace Go.Proofs.YtchmhdmapknmfaaGreatDoor
open Go.RowKit Ly
attribute [local go_sem ↓] Go.wp_at_zero Go.wp_at_succ
set_option maxRecDepth 100000 in
set_option maxHeartbeats 4000000 in
theorem wt_257 {x wk Z : ByteArray} {p3 p4 q7 : Nat} {yd hf off : Int} {m : Ly.Mo} {w0 W : World} {a : Act} (Q : Exit → Act → World → Prop) (C : WtCtx w0 p3 p4 q7 off Z yd hf wk m W) (ha : Wt x p3 p4 q7 yd hf wk a) (hx : bts x = [74, 97, 110, 117, 97, 114, 121]) (hQ : WtEnd w0 (Ly.txt m 257) Q) : Code.wp Tryz.prog wtTail Q a W := by
  obtain ⟨f, rfl⟩ := ha
  have e1 : x.toList = [74, 97, 110, 117, 97, 114, 121] := by rw [← hx]; exact Lib.toList_data x
  have t0 : (x.toList == [74, 97, 110, 117, 97, 114, 121]) = true := by rw [e1]; decide
  have HX := Lib.hid hx
  have H := Lib.hid C
  obtain ⟨k, hk⟩ : ∃ k, k = m.mo - 1 := ⟨_, rfl⟩
  have hm1 := C.ok.mo1
  have hm2 := C.ok.mo
  have hk12 : k < 12 := by omega
  have hk12' : (k : Int) < 12 := by omega
  have z := C.c1
  rw [show (m.mo : Int) = (k : Int) + 1 by omega] at z
  obtain ⟨S, hS⟩ : ∃ S : ByteArray, S = ⟨(monthNames.getD k []).toArray⟩ := ⟨_, rfl⟩
  have d0 := C.mon k hk12
  rw [← hS] at d0
  have hb1 : bts S = monthNames.getD (m.mo - 1) [] := by rw [hS, ← hk]
  have hl1 := Ly.month_len (m.mo - 1)
  have hl2 := month_ge hm1 hm2
  rw [← hb1, bts_length] at hl1 hl2
  have HS := Lib.hid hb1
  have hz3 : (3 : Int) ≤ (S.size : Int) := by omega
  have k0 : (0 : Int) ≤ (k : Int) + 1 - 1 := by omega
  have d1 : W.cell? ⟨q7, 0 + k, none⟩ = some (.string S) := by rw [Nat.zero_add]; exact d0
  clear hk hm1 hm2 hS hb1 hl1 hl2
  clear e1 hx C
  conv => arg 2; whnf
  go_wp2
  exact hQ _ _ S (by rfl) rfl (by rw [HS.out]; rfl) H.out.below

set_option maxRecDepth 100000 in
set_option maxHeartbeats 4000000 in
theorem wt_258 {x wk Z : ByteArray} {p3 p4 q7 : Nat} {yd hf off : Int} {m : Ly.Mo} {w0 W : World} {a : Act} (Q : Exit → Act → World → Prop) (C : WtCtx w0 p3 p4 q7 off Z yd hf wk m W) (ha : Wt x p3 p4 q7 yd hf wk a) (hx : bts x = [74, 97, 110]) (hQ : WtEnd w0 (Ly.txt m 258) Q) : Code.wp Tryz.prog wtTail Q a W := by
  obtain ⟨f, rfl⟩ := ha
  have e1 : x.toList = [74, 97, 110] := by rw [← hx]; exact Lib.toList_data x
  have t0 : (x.toList == [74, 97, 110, 117, 97, 114, 121]) = false := by rw [e1]; decide
  have t1 : (x.toList == [74, 97, 110]) = true := by rw [e1]; decide
  have HX := Lib.hid hx
  have H := Lib.hid C
  obtain ⟨k, hk⟩ : ∃ k, k = m.mo - 1 := ⟨_, rfl⟩
  have hm1 := C.ok.mo1
  have hm2 := C.ok.mo
  have hk12 : k < 12 := by omega
  have hk12' : (k : Int) < 12 := by omega
  have z := C.c1
  rw [show (m.mo : Int) = (k : Int) + 1 by omega] at z
  obtain ⟨S, hS⟩ : ∃ S : ByteArray, S = ⟨(monthNames.getD k []).toArray⟩ := ⟨_, rfl⟩
  have d0 := C.mon k hk12
  rw [← hS] at d0
  have hb1 : bts S = monthNames.getD (m.mo - 1) [] := by rw [hS, ← hk]
  have hl1 := Ly.month_len (m.mo - 1)
  have hl2 := month_ge hm1 hm2
  rw [← hb1, bts_length] at hl1 hl2
  have HS := Lib.hid hb1
  have hz3 : (3 : Int) ≤ (S.size : Int) := by omega
  have k0 : (0 : Int) ≤ (k : Int) + 1 - 1 := by omega
  have d1 : W.cell? ⟨q7, 0 + k, none⟩ = some (.string S) := by rw [Nat.zero_add]; exact d0
  clear hk hm1 hm2 hS hb1 hl1 hl2
  clear e1 hx C
  conv => arg 2; whnf
  go_wp2
  exact hQ _ _ (S.extract 0 3) (by rfl) rfl (by rw [bts_extract, List.drop_zero, HS.out]; rfl) H.out.below

set_option maxRecDepth 100000 in
set_option maxHeartbeats 4000000 in
theorem wt_261 {x wk Z : ByteArray} {p3 p4 q7 : Nat} {yd hf off : Int} {m : Ly.Mo} {w0 W : World} {a : Act} (Q : Exit → Act → World → Prop) (C : WtCtx w0 p3 p4 q7 off Z yd hf wk m W) (ha : Wt x p3 p4 q7 yd hf wk a) (hx : bts x = [77, 111, 110, 100, 97, 121]) (hQ : WtEnd w0 (Ly.txt m 261) Q) : Code.wp Tryz.prog wtTail Q a W := by
  obtain ⟨f, rfl⟩ := ha
  have e1 : x.toList = [77, 111, 110, 100, 97, 121] := by rw [← hx]; exact Lib.toList_data x
  have t0 : (x.toList == [74, 97, 110, 117, 97, 114, 121]) = false := by rw [e1]; decide
  have t1 : (x.toList == [74, 97, 110]) = false := by rw [e1]; decide
  have t2 : (x.toList == [49]) = false := by rw [e1]; decide
  have t3 : (x.toList == [48, 49]) = false := by rw [e1]; decide
  have t4 : (x.toList == [77, 111, 110, 100, 97, 121]) = true := by rw [e1]; decide
  have HX := Lib.hid hx
  have H := Lib.hid C
  have hl1 := Ly.day_len m.wd
  have hl2 := day_ge C.ok.wd
  rw [← C.hwk, bts_length] at hl1 hl2
  have hz3 : (3 : Int) ≤ (wk.size : Int) := by omega
  clear hl1 hl2
  clear e1 hx C
  conv => arg 2; whnf
  go_wp2
  exact hQ _ _ wk (by rfl) rfl (by rw [H.out.hwk]; rfl) H.out.below

set_option maxRecDepth 100000 in
set_option maxHeartbeats 4000000 in
theorem wt_262 {x wk Z : ByteArray} {p3 p4 q7 : Nat} {yd hf off : Int} {m : Ly.Mo} {w0 W : World} {a : Act} (Q : Exit → Act → World → Prop) (C : WtCtx w0 p3 p4 q7 off Z yd hf wk m W) (ha : Wt x p3 p4 q7 yd hf wk a) (hx : bts x = [77, 111, 110]) (hQ : WtEnd w0 (Ly.txt m 262) Q) : Code.wp Tryz.prog wtTail Q a W := by
  obtain ⟨f, rfl⟩ := ha
  have e1 : x.toList = [77, 111, 110] := by rw [← hx]; exact Lib.toList_data x
  have t0 : (x.toList == [74, 97, 110, 117, 97, 114, 121]) = false := by rw [e1]; decide
  have t1 : (x.toList == [74, 97, 110]) = false := by rw [e1]; decide
  have t2 : (x.toList == [49]) = false := by rw [e1]; decide
  have t3 : (x.toList == [48, 49]) = false := by rw [e1]; decide
  have t4 : (x.toList == [77, 111, 110, 100, 97, 121]) = false := by rw [e1]; decide
  have t5 : (x.toList == [77, 111, 110]) = true := by rw [e1]; decide
  have HX := Lib.hid hx
  have H := Lib.hid C
  have hl1 := Ly.day_len m.wd
  have hl2 := day_ge C.ok.wd
  rw [← C.hwk, bts_length] at hl1 hl2
  have hz3 : (3 : Int) ≤ (wk.size : Int) := by omega
  clear hl1 hl2
  clear e1 hx C
  conv => arg 2; whnf
  go_wp2
  exact hQ _ _ (wk.extract 0 3) (by rfl) rfl (by rw [bts_extract, List.drop_zero, H.out.hwk]; rfl) H.out.below

set_option maxRecDepth 100000 in
set_option maxHeartbeats 4000000 in
theorem wt_259 {x wk Z : ByteArray} {p3 p4 q7 : Nat} {yd hf off : Int} {m : Ly.Mo} {w0 W : World} {a : Act} (Q : Exit → Act → World → Prop) (C : WtCtx w0 p3 p4 q7 off Z yd hf wk m W) (ha : Wt x p3 p4 q7 yd hf wk a) (hx : bts x = [49]) (hQ : WtEnd w0 (Ly.txt m 259) Q) : Code.wp Tryz.prog wtTail Q a W := by
  obtain ⟨f, rfl⟩ := ha
  have e1 : x.toList = [49] := by rw [← hx]; exact Lib.toList_data x
  have t0 : (x.toList == [74, 97, 110, 117, 97, 114, 121]) = false := by rw [e1]; decide
  have t1 : (x.toList == [74, 97, 110]) = false := by rw [e1]; decide
  have t2 : (x.toList == [49]) = true := by rw [e1]; decide
  have HX := Lib.hid hx
  have H := Lib.hid C
  have z := C.c1
  have B := Lib.hid (show m.mo < 13 by have := C.ok.mo; omega)
  have z0 : (0 : Int) ≤ (m.mo : Int) := by omega
  clear e1 hx C
  conv => arg 2; whnf
  go_wp2_with fail
  go_at_call 94
  refine (itoa_any (m.mo) _ (rfl) (by have := B.out; omega) _ H.out.hp).mono ?_
  rintro r w1 ⟨s, rfl, hs, -, hb⟩
  have HS := Lib.hid (And.intro hs hb)
  clear hs hb
  go_wp2
  obtain ⟨hs, hb⟩ := HS.out
  exact hQ _ _ s (by rfl) rfl (by rw [hs]; exact (pad0 _).symm) (H.out.below.trans (hb.mono H.out.below.size))

set_option maxRecDepth 100000 in
set_option maxHeartbeats 4000000 in
theorem wt_260 {x wk Z : ByteArray} {p3 p4 q7 : Nat} {yd hf off : Int} {m : Ly.Mo} {w0 W : World} {a : Act} (Q : Exit → Act → World → Prop) (C : WtCtx w0 p3 p4 q7 off Z yd hf wk m W) (ha : Wt x p3 p4 q7 yd hf wk a) (hx : bts x = [48, 49]) (hQ : WtEnd w0 (Ly.txt m 260) Q) : Code.wp Tryz.prog wtTail Q a W := by
  obtain ⟨f, rfl⟩ := ha
  have e1 : x.toList = [48, 49] := by rw [← hx]; exact Lib.toList_data x
  have t0 : (x.toList == [74, 97, 110, 117, 97, 114, 121]) = false := by rw [e1]; decide
  have t1 : (x.toList == [74, 97, 110]) = false := by rw [e1]; decide
  have t2 : (x.toList == [49]) = false := by rw [e1]; decide
  have t3 : (x.toList == [48, 49]) = true := by rw [e1]; decide
  have HX := Lib.hid hx
  have H := Lib.hid C
  have z := C.c1
  have B := Lib.hid (show m.mo < 13 by have := C.ok.mo; omega)
  have z0 : (0 : Int) ≤ (m.mo : Int) := by omega
  clear e1 hx C
  conv => arg 2; whnf
  go_wp2_with fail
  go_at_call 95
  refine (padded_any (m.mo) 2 _ _ (rfl) rfl (by have := B.out; omega) (by omega) _ H.out.hp).mono ?_
  rintro r w1 ⟨s, rfl, hs, -, hb⟩
  have HS := Lib.hid (And.intro hs hb)
  clear hs hb
  go_wp2
  obtain ⟨hs, hb⟩ := HS.out
  exact hQ _ _ s (by rfl) rfl (by rw [hs]; rfl) (H.out.below.trans (hb.mono H.out.below.size))

set_option maxRecDepth 100000 in
set_option maxHeartbeats 4000000 in
theorem wt_263 {x wk Z : ByteArray} {p3 p4 q7 : Nat} {yd hf off : Int} {m : Ly.Mo} {w0 W : World} {a : Act} (Q : Exit → Act → World → Prop) (C : WtCtx w0 p3 p4 q7 off Z yd hf wk m W) (ha : Wt x p3 p4 q7 yd hf wk a) (hx : bts x = [50]) (hQ : WtEnd w0 (Ly.txt m 263) Q) : Code.wp Tryz.prog wtTail Q a W := by
  obtain ⟨f, rfl⟩ := ha
  have e1 : x.toList = [50] := by rw [← hx]; exact Lib.toList_data x
  have t0 : (x.toList == [74, 97, 110, 117, 97, 114, 121]) = false := by rw [e1]; decide
  have t1 : (x.toList == [74, 97, 110]) = false := by rw [e1]; decide
  have t2 : (x.toList == [49]) = false := by rw [e1]; decide
  have t3 : (x.toList == [48, 49]) = false := by rw [e1]; decide
  have t4 : (x.toList == [77, 111, 110, 100, 97, 121]) = false := by rw [e1]; decide
  have t5 : (x.toList == [77, 111, 110]) = false := by rw [e1]; decide
  have t6 : (x.toList == [50]) = true := by rw [e1]; decide
  have HX := Lib.hid hx
  have H := Lib.hid C
  have z := C.c2
  have B := Lib.hid (show m.d < 32 by have := C.ok.d; omega)
  have z0 : (0 : Int) ≤ (m.d : Int) := by omega
  clear e1 hx C
  conv => arg 2; whnf
  go_wp2_with fail
  go_at_call 94
  refine (itoa_any (m.d) _ (rfl) (by have := B.out; omega) _ H.out.hp).mono ?_
  rintro r w1 ⟨s, rfl, hs, -, hb⟩
  have HS := Lib.hid (And.intro hs hb)
  clear hs hb
  go_wp2
  obtain ⟨hs, hb⟩ := HS.out
  exact hQ _ _ s (by rfl) rfl (by rw [hs]; exact (pad0 _).symm) (H.out.below.trans (hb.mono H.out.below.size))

set_option maxRecDepth 100000 in
set_option maxHeartbeats 4000000 in
theorem wt_264 {x wk Z : ByteArray} {p3 p4 q7 : Nat} {yd hf off : Int} {m : Ly.Mo} {w0 W : World} {a : Act} (Q : Exit → Act → World → Prop) (C : WtCtx w0 p3 p4 q7 off Z yd hf wk m W) (ha : Wt x p3 p4 q7 yd hf wk a) (hx : bts x = [95, 50]) (hQ : WtEnd w0 (Ly.txt m 264) Q) : Code.wp Tryz.prog wtTail Q a W := by
  obtain ⟨f, rfl⟩ := ha
  have e1 : x.toList = [95, 50] := by rw [← hx]; exact Lib.toList_data x
  have t0 : (x.toList == [74, 97, 110, 117, 97, 114, 121]) = false := by rw [e1]; decide
  have t1 : (x.toList == [74, 97, 110]) = false := by rw [e1]; decide
  have t2 : (x.toList == [49]) = false := by rw [e1]; decide
  have t3 : (x.toList == [48, 49]) = false := by rw [e1]; decide
  have t4 : (x.toList == [77, 111, 110, 100, 97, 121]) = false := by rw [e1]; decide
  have t5 : (x.toList == [77, 111, 110]) = false := by rw [e1]; decide
  have t6 : (x.toList == [50]) = false := by rw [e1]; decide
  have t7 : (x.toList == [95, 50]) = true := by rw [e1]; decide
  have HX := Lib.hid hx
  have H := Lib.hid C
  have z := C.c2
  have B := Lib.hid (show m.d < 32 by have := C.ok.d; omega)
  have z0 : (0 : Int) ≤ (m.d : Int) := by omega
  clear e1 hx C
  conv => arg 2; whnf
  go_wp2_with fail
  go_at_call 96
  refine (blanked_any (m.d) 2 _ _ (rfl) rfl (by have := B.out; omega) (by omega) _ H.out.hp).mono ?_
  rintro r w1 ⟨s, rfl, hs, -, hb⟩
  have HS := Lib.hid (And.intro hs hb)
  clear hs hb
  go_wp2
  obtain ⟨hs, hb⟩ := HS.out
  exact hQ _ _ s (by rfl) rfl (by rw [hs]; rfl) (H.out.below.trans (hb.mono H.out.below.size))

set_option maxRecDepth 100000 in
set_option maxHeartbeats 4000000 in
theorem wt_265 {x wk Z : ByteArray} {p3 p4 q7 : Nat} {yd hf off : Int} {m : Ly.Mo} {w0 W : World} {a : Act} (Q : Exit → Act → World → Prop) (C : WtCtx w0 p3 p4 q7 off Z yd hf wk m W) (ha : Wt x p3 p4 q7 yd hf wk a) (hx : bts x = [48, 50]) (hQ : WtEnd w0 (Ly.txt m 265) Q) : Code.wp Tryz.prog wtTail Q a W := by
  obtain ⟨f, rfl⟩ := ha
  have e1 : x.toList = [48, 50] := by rw [← hx]; exact Lib.toList_data x
  have t0 : (x.toList == [74, 97, 110, 117, 97, 114, 121]) = false := by rw [e1]; decide
  have t1 : (x.toList == [74, 97, 110]) = false := by rw [e1]; decide
  have t2 : (x.toList == [49]) = false := by rw [e1]; decide
  have t3 : (x.toList == [48, 49]) = false := by rw [e1]; decide
  have t4 : (x.toList == [77, 111, 110, 100, 97, 121]) = false := by rw [e1]; decide
  have t5 : (x.toList == [77, 111, 110]) = false := by rw [e1]; decide
  have t6 : (x.toList == [50]) = false := by rw [e1]; decide
  have t7 : (x.toList == [95, 50]) = false := by rw [e1]; decide
  have t8 : (x.toList == [48, 50]) = true := by rw [e1]; decide
  have HX := Lib.hid hx
  have H := Lib.hid C
  have z := C.c2
  have B := Lib.hid (show m.d < 32 by have := C.ok.d; omega)
  have z0 : (0 : Int) ≤ (m.d : Int) := by omega
  clear e1 hx C
  conv => arg 2; whnf
  go_wp2_with fail
  go_at_call 95
  refine (padded_any (m.d) 2 _ _ (rfl) rfl (by have := B.out; omega) (by omega) _ H.out.hp).mono ?_
  rintro r w1 ⟨s, rfl, hs, -, hb⟩
  have HS := Lib.hid (And.intro hs hb)
  clear hs hb
  go_wp2
  obtain ⟨hs, hb⟩ := HS.out
  exact hQ _ _ s (by rfl) rfl (by rw [hs]; rfl) (H.out.below.trans (hb.mono H.out.below.size))
end Go.Proofs.YtchmhdmapknmfaaGreatDoor

/-
  zWritten: what each part stands for (printed by gen_Rg.py).
-/
namespace Go.Proofs.YtchmhdmapknmfaaGreatDoor
open Go.RowKit Ly
attribute [local go_sem ↓] Go.wp_at_zero Go.wp_at_succ
set_option maxRecDepth 100000 in
set_option maxHeartbeats 4000000 in
theorem wt_523 {x wk Z : ByteArray} {p3 p4 q7 : Nat} {yd hf off : Int} {m : Ly.Mo} {w0 W : World} {a : Act} (Q : Exit → Act → World → Prop) (C : WtCtx w0 p3 p4 q7 off Z yd hf wk m W) (ha : Wt x p3 p4 q7 yd hf wk a) (hx : bts x = [48, 48, 50]) (hQ : WtEnd w0 (Ly.txt m 523) Q) : Code.wp Tryz.prog wtTail Q a W := by
  obtain ⟨f, rfl⟩ := ha
  have e1 : x.toList = [48, 48, 50] := by rw [← hx]; exact Lib.toList_data x
  have t0 : (x.toList == [74, 97, 110, 117, 97, 114, 121]) = false := by rw [e1]; decide
  have t1 : (x.toList == [74, 97, 110]) = false := by rw [e1]; decide
  have t2 : (x.toList == [49]) = false := by rw [e1]; decide
  have t3 : (x.toList == [48, 49]) = false := by rw [e1]; decide
  have t4 : (x.toList == [77, 111, 110, 100, 97, 121]) = false := by rw [e1]; decide
  have t5 : (x.toList == [77, 111, 110]) = false := by rw [e1]; decide
  have t6 : (x.toList == [50]) = false := by rw [e1]; decide
  have t7 : (x.toList == [95, 50]) = false := by rw [e1]; decide
  have t8 : (x.toList == [48, 50]) = false := by rw [e1]; decide
  have t9 : (x.toList == [48, 48, 50]) = true := by rw [e1]; decide
  have HX := Lib.hid hx
  have H := Lib.hid C
  have B := Lib.hid (show m.yd < 400 by have := C.ok.yd; omega)
  clear e1 hx C
  conv => arg 2; whnf
  go_wp2_with fail
  go_at_call 95
  refine (padded_any (m.yd) 3 _ _ (H.out.hyd) rfl (by have := B.out; omega) (by omega) _ H.out.hp).mono ?_
  rintro r w1 ⟨s, rfl, hs, -, hb⟩
  have HS := Lib.hid (And.intro hs hb)
  clear hs hb
  go_wp2
  obtain ⟨hs, hb⟩ := HS.out
  exact hQ _ _ s (by rfl) rfl (by rw [hs]; rfl) (H.out.below.trans (hb.mono H.out.below.size))

set_option maxRecDepth 100000 in
set_option maxHeartbeats 4000000 in
theorem wt_522 {x wk Z : ByteArray} {p3 p4 q7 : Nat} {yd hf off : Int} {m : Ly.Mo} {w0 W : World} {a : Act} (Q : Exit → Act → World → Prop) (C : WtCtx w0 p3 p4 q7 off Z yd hf wk m W) (ha : Wt x p3 p4 q7 yd hf wk a) (hx : bts x = [95, 95, 50]) (hQ : WtEnd w0 (Ly.txt m 522) Q) : Code.wp Tryz.prog wtTail Q a W := by
  obtain ⟨f, rfl⟩ := ha
  have e1 : x.toList = [95, 95, 50] := by rw [← hx]; exact Lib.toList_data x
  have t0 : (x.toList == [74, 97, 110, 117, 97, 114, 121]) = false := by rw [e1]; decide
  have t1 : (x.toList == [74, 97, 110]) = false := by rw [e1]; decide
  have t2 : (x.toList == [49]) = false := by rw [e1]; decide
  have t3 : (x.toList == [48, 49]) = false := by rw [e1]; decide
  have t4 : (x.toList == [77, 111, 110, 100, 97, 121]) = false := by rw [e1]; decide
  have t5 : (x.toList == [77, 111, 110]) = false := by rw [e1]; decide
  have t6 : (x.toList == [50]) = false := by rw [e1]; decide
  have t7 : (x.toList == [95, 50]) = false := by rw [e1]; decide
  have t8 : (x.toList == [48, 50]) = false := by rw [e1]; decide
  have t9 : (x.toList == [48, 48, 50]) = false := by rw [e1]; decide
  have t10 : (x.toList == [95, 95, 50]) = true := by rw [e1]; decide
  have HX := Lib.hid hx
  have H := Lib.hid C
  have B := Lib.hid (show m.yd < 400 by have := C.ok.yd; omega)
  clear e1 hx C
  conv => arg 2; whnf
  go_wp2_with fail
  go_at_call 96
  refine (blanked_any (m.yd) 3 _ _ (H.out.hyd) rfl (by have := B.out; omega) (by omega) _ H.out.hp).mono ?_
  rintro r w1 ⟨s, rfl, hs, -, hb⟩
  have HS := Lib.hid (And.intro hs hb)
  clear hs hb
  go_wp2
  obtain ⟨hs, hb⟩ := HS.out
  exact hQ _ _ s (by rfl) rfl (by rw [hs]; rfl) (H.out.below.trans (hb.mono H.out.below.size))

set_option maxRecDepth 100000 in
set_option maxHeartbeats 4000000 in
theorem wt_275 {x wk Z : ByteArray} {p3 p4 q7 : Nat} {yd hf off : Int} {m : Ly.Mo} {w0 W : World} {a : Act} (Q : Exit → Act → World → Prop) (C : WtCtx w0 p3 p4 q7 off Z yd hf wk m W) (ha : Wt x p3 p4 q7 yd hf wk a) (hx : bts x = [50, 48, 48, 54]) (hQ : WtEnd w0 (Ly.txt m 275) Q) : Code.wp Tryz.prog wtTail Q a W := by
  obtain ⟨f, rfl⟩ := ha
  have e1 : x.toList = [50, 48, 48, 54] := by rw [← hx]; exact Lib.toList_data x
  have t0 : (x.toList == [74, 97, 110, 117, 97, 114, 121]) = false := by rw [e1]; decide
  have t1 : (x.toList == [74, 97, 110]) = false := by rw [e1]; decide
  have t2 : (x.toList == [49]) = false := by rw [e1]; decide
  have t3 : (x.toList == [48, 49]) = false := by rw [e1]; decide
  have t4 : (x.toList == [77, 111, 110, 100, 97, 121]) = false := by rw [e1]; decide
  have t5 : (x.toList == [77, 111, 110]) = false := by rw [e1]; decide
  have t6 : (x.toList == [50]) = false := by rw [e1]; decide
  have t7 : (x.toList == [95, 50]) = false := by rw [e1]; decide
  have t8 : (x.toList == [48, 50]) = false := by rw [e1]; decide
  have t9 : (x.toList == [48, 48, 50]) = false := by rw [e1]; decide
  have t10 : (x.toList == [95, 95, 50]) = false := by rw [e1]; decide
  have t11 : (x.toList == [50, 48, 48, 54]) = true := by rw [e1]; decide
  have HX := Lib.hid hx
  have H := Lib.hid C
  have z := C.c0
  have B := Lib.hid (show m.y < 10000 by have := C.ok.y; omega)
  have z0 : (0 : Int) ≤ (m.y : Int) := by omega
  clear e1 hx C
  conv => arg 2; whnf
  go_wp2_with fail
  go_at_call 95
  refine (padded_any (m.y) 4 _ _ (rfl) rfl (by have := B.out; omega) (by omega) _ H.out.hp).mono ?_
  rintro r w1 ⟨s, rfl, hs, -, hb⟩
  have HS := Lib.hid (And.intro hs hb)
  clear hs hb
  go_wp2
  obtain ⟨hs, hb⟩ := HS.out
  exact hQ _ _ s (by rfl) rfl (by rw [hs]; rfl) (H.out.below.trans (hb.mono H.out.below.size))

set_option maxRecDepth 100000 in
set_option maxHeartbeats 4000000 in
theorem wt_276 {x wk Z : ByteArray} {p3 p4 q7 : Nat} {yd hf off : Int} {m : Ly.Mo} {w0 W : World} {a : Act} (Q : Exit → Act → World → Prop) (C : WtCtx w0 p3 p4 q7 off Z yd hf wk m W) (ha : Wt x p3 p4 q7 yd hf wk a) (hx : bts x = [48, 54]) (hQ : WtEnd w0 (Ly.txt m 276) Q) : Code.wp Tryz.prog wtTail Q a W := by
  obtain ⟨f, rfl⟩ := ha
  have e1 : x.toList = [48, 54] := by rw [← hx]; exact Lib.toList_data x
  have t0 : (x.toList == [74, 97, 110, 117, 97, 114, 121]) = false := by rw [e1]; decide
  have t1 : (x.toList == [74, 97, 110]) = false := by rw [e1]; decide
  have t2 : (x.toList == [49]) = false := by rw [e1]; decide
  have t3 : (x.toList == [48, 49]) = false := by rw [e1]; decide
  have t4 : (x.toList == [77, 111, 110, 100, 97, 121]) = false := by rw [e1]; decide
  have t5 : (x.toList == [77, 111, 110]) = false := by rw [e1]; decide
  have t6 : (x.toList == [50]) = false := by rw [e1]; decide
  have t7 : (x.toList == [95, 50]) = false := by rw [e1]; decide
  have t8 : (x.toList == [48, 50]) = false := by rw [e1]; decide
  have t9 : (x.toList == [48, 48, 50]) = false := by rw [e1]; decide
  have t10 : (x.toList == [95, 95, 50]) = false := by rw [e1]; decide
  have t11 : (x.toList == [50, 48, 48, 54]) = false := by rw [e1]; decide
  have t12 : (x.toList == [48, 54]) = true := by rw [e1]; decide
  have HX := Lib.hid hx
  have H := Lib.hid C
  have z := C.c0
  have B := Lib.hid (show m.y < 10000 from C.ok.y)
  have z0 : (0 : Int) ≤ (m.y : Int) := by omega
  clear e1 hx C
  conv => arg 2; whnf
  go_wp2_with fail
  go_at_call 95
  refine (padded_any (m.y % 100) 2 _ _ (by omega) rfl (by have := B.out; omega) (by omega) _ H.out.hp).mono ?_
  rintro r w1 ⟨s, rfl, hs, -, hb⟩
  have HS := Lib.hid (And.intro hs hb)
  clear hs hb
  go_wp2
  obtain ⟨hs, hb⟩ := HS.out
  exact hQ _ _ s (by rfl) rfl (by rw [hs]; rfl) (H.out.below.trans (hb.mono H.out.below.size))

set_option maxRecDepth 100000 in
set_option maxHeartbeats 4000000 in
theorem wt_1036 {x wk Z : ByteArray} {p3 p4 q7 : Nat} {yd hf off : Int} {m : Ly.Mo} {w0 W : World} {a : Act} (Q : Exit → Act → World → Prop) (C : WtCtx w0 p3 p4 q7 off Z yd hf wk m W) (ha : Wt x p3 p4 q7 yd hf wk a) (hx : bts x = [49, 53]) (hQ : WtEnd w0 (Ly.txt m 1036) Q) : Code.wp Tryz.prog wtTail Q a W := by
  obtain ⟨f, rfl⟩ := ha
  have e1 : x.toList = [49, 53] := by rw [← hx]; exact Lib.toList_data x
  have t0 : (x.toList == [74, 97, 110, 117, 97, 114, 121]) = false := by rw [e1]; decide
  have t1 : (x.toList == [74, 97, 110]) = false := by rw [e1]; decide
  have t2 : (x.toList == [49]) = false := by rw [e1]; decide
  have t3 : (x.toList == [48, 49]) = false := by rw [e1]; decide
  have t4 : (x.toList == [77, 111, 110, 100, 97, 121]) = false := by rw [e1]; decide
  have t5 : (x.toList == [77, 111, 110]) = false := by rw [e1]; decide
  have t6 : (x.toList == [50]) = false := by rw [e1]; decide
  have t7 : (x.toList == [95, 50]) = false := by rw [e1]; decide
  have t8 : (x.toList == [48, 50]) = false := by rw [e1]; decide
  have t9 : (x.toList == [48, 48, 50]) = false := by rw [e1]; decide
  have t10 : (x.toList == [95, 95, 50]) = false := by rw [e1]; decide
  have t11 : (x.toList == [50, 48, 48, 54]) = false := by rw [e1]; decide
  have t12 : (x.toList == [48, 54]) = false := by rw [e1]; decide
  have t13 : (x.toList == [49, 53]) = true := by rw [e1]; decide
  have HX := Lib.hid hx
  have H := Lib.hid C
  have z := C.c3
  have B := Lib.hid (show m.h < 24 by have := C.ok.h; omega)
  have z0 : (0 : Int) ≤ (m.h : Int) := by omega
  clear e1 hx C
  conv => arg 2; whnf
  go_wp2_with fail
  go_at_call 95
  refine (padded_any (m.h) 2 _ _ (rfl) rfl (by have := B.out; omega) (by omega) _ H.out.hp).mono ?_
  rintro r w1 ⟨s, rfl, hs, -, hb⟩
  have HS := Lib.hid (And.intro hs hb)
  clear hs hb
  go_wp2
  obtain ⟨hs, hb⟩ := HS.out
  exact hQ _ _ s (by rfl) rfl (by rw [hs]; rfl) (H.out.below.trans (hb.mono H.out.below.size))

set_option maxRecDepth 100000 in
set_option maxHeartbeats 4000000 in
theorem wt_1037 {x wk Z : ByteArray} {p3 p4 q7 : Nat} {yd hf off : Int} {m : Ly.Mo} {w0 W : World} {a : Act} (Q : Exit → Act → World → Prop) (C : WtCtx w0 p3 p4 q7 off Z yd hf wk m W) (ha : Wt x p3 p4 q7 yd hf wk a) (hx : bts x = [51]) (hQ : WtEnd w0 (Ly.txt m 1037) Q) : Code.wp Tryz.prog wtTail Q a W := by
  obtain ⟨f, rfl⟩ := ha
  have e1 : x.toList = [51] := by rw [← hx]; exact Lib.toList_data x
  have t0 : (x.toList == [74, 97, 110, 117, 97, 114, 121]) = false := by rw [e1]; decide
  have t1 : (x.toList == [74, 97, 110]) = false := by rw [e1]; decide
  have t2 : (x.toList == [49]) = false := by rw [e1]; decide
  have t3 : (x.toList == [48, 49]) = false := by rw [e1]; decide
  have t4 : (x.toList == [77, 111, 110, 100, 97, 121]) = false := by rw [e1]; decide
  have t5 : (x.toList == [77, 111, 110]) = false := by rw [e1]; decide
  have t6 : (x.toList == [50]) = false := by rw [e1]; decide
  have t7 : (x.toList == [95, 50]) = false := by rw [e1]; decide
  have t8 : (x.toList == [48, 50]) = false := by rw [e1]; decide
  have t9 : (x.toList == [48, 48, 50]) = false := by rw [e1]; decide
  have t10 : (x.toList == [95, 95, 50]) = false := by rw [e1]; decide
  have t11 : (x.toList == [50, 48, 48, 54]) = false := by rw [e1]; decide
  have t12 : (x.toList == [48, 54]) = false := by rw [e1]; decide
  have t13 : (x.toList == [49, 53]) = false := by rw [e1]; decide
  have t14 : (x.toList == [51]) = true := by rw [e1]; decide
  have HX := Lib.hid hx
  have H := Lib.hid C
  have B := Lib.hid (half_le m.h)
  clear e1 hx C
  conv => arg 2; whnf
  go_wp2_with fail
  go_at_call 94
  refine (itoa_any (half m.h) _ (H.out.hhf) (by have := B.out; omega) _ H.out.hp).mono ?_
  rintro r w1 ⟨s, rfl, hs, -, hb⟩
  have HS := Lib.hid (And.intro hs hb)
  clear hs hb
  go_wp2
  obtain ⟨hs, hb⟩ := HS.out
  exact hQ _ _ s (by rfl) rfl (by rw [hs]; exact (pad0 _).symm) (H.out.below.trans (hb.mono H.out.below.size))

set_option maxRecDepth 100000 in
set_option maxHeartbeats 4000000 in
theorem wt_1038 {x wk Z : ByteArray} {p3 p4 q7 : Nat} {yd hf off : Int} {m : Ly.Mo} {w0 W : World} {a : Act} (Q : Exit → Act → World → Prop) (C : WtCtx w0 p3 p4 q7 off Z yd hf wk m W) (ha : Wt x p3 p4 q7 yd hf wk a) (hx : bts x = [48, 51]) (hQ : WtEnd w0 (Ly.txt m 1038) Q) : Code.wp Tryz.prog wtTail Q a W := by
  obtain ⟨f, rfl⟩ := ha
  have e1 : x.toList = [48, 51] := by rw [← hx]; exact Lib.toList_data x
  have t0 : (x.toList == [74, 97, 110, 117, 97, 114, 121]) = false := by rw [e1]; decide
  have t1 : (x.toList == [74, 97, 110]) = false := by rw [e1]; decide
  have t2 : (x.toList == [49]) = false := by rw [e1]; decide
  have t3 : (x.toList == [48, 49]) = false := by rw [e1]; decide
  have t4 : (x.toList == [77, 111, 110, 100, 97, 121]) = false := by rw [e1]; decide
  have t5 : (x.toList == [77, 111, 110]) = false := by rw [e1]; decide
  have t6 : (x.toList == [50]) = false := by rw [e1]; decide
  have t7 : (x.toList == [95, 50]) = false := by rw [e1]; decide
  have t8 : (x.toList == [48, 50]) = false := by rw [e1]; decide
  have t9 : (x.toList == [48, 48, 50]) = false := by rw [e1]; decide
  have t10 : (x.toList == [95, 95, 50]) = false := by rw [e1]; decide
  have t11 : (x.toList == [50, 48, 48, 54]) = false := by rw [e1]; decide
  have t12 : (x.toList == [48, 54]) = false := by rw [e1]; decide
  have t13 : (x.toList == [49, 53]) = false := by rw [e1]; decide
  have t14 : (x.toList == [51]) = false := by rw [e1]; decide
  have t15 : (x.toList == [48, 51]) = true := by rw [e1]; decide
  have HX := Lib.hid hx
  have H := Lib.hid C
  have B := Lib.hid (half_le m.h)
  clear e1 hx C
  conv => arg 2; whnf
  go_wp2_with fail
  go_at_call 95
  refine (padded_any (half m.h) 2 _ _ (H.out.hhf) rfl (by have := B.out; omega) (by omega) _ H.out.hp).mono ?_
  rintro r w1 ⟨s, rfl, hs, -, hb⟩
  have HS := Lib.hid (And.intro hs hb)
  clear hs hb
  go_wp2
  obtain ⟨hs, hb⟩ := HS.out
  exact hQ _ _ s (by rfl) rfl (by rw [hs]; rfl) (H.out.below.trans (hb.mono H.out.below.size))

set_option maxRecDepth 100000 in
set_option maxHeartbeats 4000000 in
theorem wt_1039 {x wk Z : ByteArray} {p3 p4 q7 : Nat} {yd hf off : Int} {m : Ly.Mo} {w0 W : World} {a : Act} (Q : Exit → Act → World → Prop) (C : WtCtx w0 p3 p4 q7 off Z yd hf wk m W) (ha : Wt x p3 p4 q7 yd hf wk a) (hx : bts x = [52]) (hQ : WtEnd w0 (Ly.txt m 1039) Q) : Code.wp Tryz.prog wtTail Q a W := by
  obtain ⟨f, rfl⟩ := ha
  have e1 : x.toList = [52] := by rw [← hx]; exact Lib.toList_data x
  have t0 : (x.toList == [74, 97, 110, 117, 97, 114, 121]) = false := by rw [e1]; decide
  have t1 : (x.toList == [74, 97, 110]) = false := by rw [e1]; decide
  have t2 : (x.toList == [49]) = false := by rw [e1]; decide
  have t3 : (x.toList == [48, 49]) = false := by rw [e1]; decide
  have t4 : (x.toList == [77, 111, 110, 100, 97, 121]) = false := by rw [e1]; decide
  have t5 : (x.toList == [77, 111, 110]) = false := by rw [e1]; decide
  have t6 : (x.toList == [50]) = false := by rw [e1]; decide
  have t7 : (x.toList == [95, 50]) = false := by rw [e1]; decide
  have t8 : (x.toList == [48, 50]) = false := by rw [e1]; decide
  have t9 : (x.toList == [48, 48, 50]) = false := by rw [e1]; decide
  have t10 : (x.toList == [95, 95, 50]) = false := by rw [e1]; decide
  have t11 : (x.toList == [50, 48, 48, 54]) = false := by rw [e1]; decide
  have t12 : (x.toList == [48, 54]) = false := by rw [e1]; decide
  have t13 : (x.toList == [49, 53]) = false := by rw [e1]; decide
  have t14 : (x.toList == [51]) = false := by rw [e1]; decide
  have t15 : (x.toList == [48, 51]) = false := by rw [e1]; decide
  have t16 : (x.toList == [52]) = true := by rw [e1]; decide
  have HX := Lib.hid hx
  have H := Lib.hid C
  have z := C.c4
  have B := Lib.hid (show m.mi < 60 by have := C.ok.mi; omega)
  have z0 : (0 : Int) ≤ (m.mi : Int) := by omega
  clear e1 hx C
  conv => arg 2; whnf
  go_wp2_with fail
  go_at_call 94
  refine (itoa_any (m.mi) _ (rfl) (by have := B.out; omega) _ H.out.hp).mono ?_
  rintro r w1 ⟨s, rfl, hs, -, hb⟩
  have HS := Lib.hid (And.intro hs hb)
  clear hs hb
  go_wp2
  obtain ⟨hs, hb⟩ := HS.out
  exact hQ _ _ s (by rfl) rfl (by rw [hs]; exact (pad0 _).symm) (H.out.below.trans (hb.mono H.out.below.size))

set_option maxRecDepth 100000 in
set_option maxHeartbeats 4000000 in
theorem wt_1040 {x wk Z : ByteArray} {p3 p4 q7 : Nat} {yd hf off : Int} {m : Ly.Mo} {w0 W : World} {a : Act} (Q : Exit → Act → World → Prop) (C : WtCtx w0 p3 p4 q7 off Z yd hf wk m W) (ha : Wt x p3 p4 q7 yd hf wk a) (hx : bts x = [48, 52]) (hQ : WtEnd w0 (Ly.txt m 1040) Q) : Code.wp Tryz.prog wtTail Q a W := by
  obtain ⟨f, rfl⟩ := ha
  have e1 : x.toList = [48, 52] := by rw [← hx]; exact Lib.toList_data x
  have t0 : (x.toList == [74, 97, 110, 117, 97, 114, 121]) = false := by rw [e1]; decide
  have t1 : (x.toList == [74, 97, 110]) = false := by rw [e1]; decide
  have t2 : (x.toList == [49]) = false := by rw [e1]; decide
  have t3 : (x.toList == [48, 49]) = false := by rw [e1]; decide
  have t4 : (x.toList == [77, 111, 110, 100, 97, 121]) = false := by rw [e1]; decide
  have t5 : (x.toList == [77, 111, 110]) = false := by rw [e1]; decide
  have t6 : (x.toList == [50]) = false := by rw [e1]; decide
  have t7 : (x.toList == [95, 50]) = false := by rw [e1]; decide
  have t8 : (x.toList == [48, 50]) = false := by rw [e1]; decide
  have t9 : (x.toList == [48, 48, 50]) = false := by rw [e1]; decide
  have t10 : (x.toList == [95, 95, 50]) = false := by rw [e1]; decide
  have t11 : (x.toList == [50, 48, 48, 54]) = false := by rw [e1]; decide
  have t12 : (x.toList == [48, 54]) = false := by rw [e1]; decide
  have t13 : (x.toList == [49, 53]) = false := by rw [e1]; decide
  have t14 : (x.toList == [51]) = false := by rw [e1]; decide
  have t15 : (x.toList == [48, 51]) = false := by rw [e1]; decide
  have t16 : (x.toList == [52]) = false := by rw [e1]; decide
  have t17 : (x.toList == [48, 52]) = true := by rw [e1]; decide
  have HX := Lib.hid hx
  have H := Lib.hid C
  have z := C.c4
  have B := Lib.hid (show m.mi < 60 by have := C.ok.mi; omega)
  have z0 : (0 : Int) ≤ (m.mi : Int) := by omega
  clear e1 hx C
  conv => arg 2; whnf
  go_wp2_with fail
  go_at_call 95
  refine (padded_any (m.mi) 2 _ _ (rfl) rfl (by have := B.out; omega) (by omega) _ H.out.hp).mono ?_
  rintro r w1 ⟨s, rfl, hs, -, hb⟩
  have HS := Lib.hid (And.intro hs hb)
  clear hs hb
  go_wp2
  obtain ⟨hs, hb⟩ := HS.out
  exact hQ _ _ s (by rfl) rfl (by rw [hs]; rfl) (H.out.below.trans (hb.mono H.out.below.size))

set_option maxRecDepth 100000 in
set_option maxHeartbeats 4000000 in
theorem wt_1041 {x wk Z : ByteArray} {p3 p4 q7 : Nat} {yd hf off : Int} {m : Ly.Mo} {w0 W : World} {a : Act} (Q : Exit → Act → World → Prop) (C : WtCtx w0 p3 p4 q7 off Z yd hf wk m W) (ha : Wt x p3 p4 q7 yd hf wk a) (hx : bts x = [53]) (hQ : WtEnd w0 (Ly.txt m 1041) Q) : Code.wp Tryz.prog wtTail Q a W := by
  obtain ⟨f, rfl⟩ := ha
  have e1 : x.toList = [53] := by rw [← hx]; exact Lib.toList_data x
  have t0 : (x.toList == [74, 97, 110, 117, 97, 114, 121]) = false := by rw [e1]; decide
  have t1 : (x.toList == [74, 97, 110]) = false := by rw [e1]; decide
  have t2 : (x.toList == [49]) = false := by rw [e1]; decide
  have t3 : (x.toList == [48, 49]) = false := by rw [e1]; decide
  have t4 : (x.toList == [77, 111, 110, 100, 97, 121]) = false := by rw [e1]; decide
  have t5 : (x.toList == [77, 111, 110]) = false := by rw [e1]; decide
  have t6 : (x.toList == [50]) = false := by rw [e1]; decide
  have t7 : (x.toList == [95, 50]) = false := by rw [e1]; decide
  have t8 : (x.toList == [48, 50]) = false := by rw [e1]; decide
  have t9 : (x.toList == [48, 48, 50]) = false := by rw [e1]; decide
  have t10 : (x.toList == [95, 95, 50]) = false := by rw [e1]; decide
  have t11 : (x.toList == [50, 48, 48, 54]) = false := by rw [e1]; decide
  have t12 : (x.toList == [48, 54]) = false := by rw [e1]; decide
  have t13 : (x.toList == [49, 53]) = false := by rw [e1]; decide
  have t14 : (x.toList == [51]) = false := by rw [e1]; decide
  have t15 : (x.toList == [48, 51]) = false := by rw [e1]; decide
  have t16 : (x.toList == [52]) = false := by rw [e1]; decide
  have t17 : (x.toList == [48, 52]) = false := by rw [e1]; decide
  have t18 : (x.toList == [53]) = true := by rw [e1]; decide
  have HX := Lib.hid hx
  have H := Lib.hid C
  have z := C.c5
  have B := Lib.hid (show m.s < 60 by have := C.ok.s; omega)
  have z0 : (0 : Int) ≤ (m.s : Int) := by omega
  clear e1 hx C
  conv => arg 2; whnf
  go_wp2_with fail
  go_at_call 94
  refine (itoa_any (m.s) _ (rfl) (by have := B.out; omega) _ H.out.hp).mono ?_
  rintro r w1 ⟨s, rfl, hs, -, hb⟩
  have HS := Lib.hid (And.intro hs hb)
  clear hs hb
  go_wp2
  obtain ⟨hs, hb⟩ := HS.out
  exact hQ _ _ s (by rfl) rfl (by rw [hs]; exact (pad0 _).symm) (H.out.below.trans (hb.mono H.out.below.size))

set_option maxRecDepth 100000 in
set_option maxHeartbeats 4000000 in
theorem wt_1042 {x wk Z : ByteArray} {p3 p4 q7 : Nat} {yd hf off : Int} {m : Ly.Mo} {w0 W : World} {a : Act} (Q : Exit → Act → World → Prop) (C : WtCtx w0 p3 p4 q7 off Z yd hf wk m W) (ha : Wt x p3 p4 q7 yd hf wk a) (hx : bts x = [48, 53]) (hQ : WtEnd w0 (Ly.txt m 1042) Q) : Code.wp Tryz.prog wtTail Q a W := by
  obtain ⟨f, rfl⟩ := ha
  have e1 : x.toList = [48, 53] := by rw [← hx]; exact Lib.toList_data x
  have t0 : (x.toList == [74, 97, 110, 117, 97, 114, 121]) = false := by rw [e1]; decide
  have t1 : (x.toList == [74, 97, 110]) = false := by rw [e1]; decide
  have t2 : (x.toList == [49]) = false := by rw [e1]; decide
  have t3 : (x.toList == [48, 49]) = false := by rw [e1]; decide
  have t4 : (x.toList == [77, 111, 110, 100, 97, 121]) = false := by rw [e1]; decide
  have t5 : (x.toList == [77, 111, 110]) = false := by rw [e1]; decide
  have t6 : (x.toList == [50]) = false := by rw [e1]; decide
  have t7 : (x.toList == [95, 50]) = false := by rw [e1]; decide
  have t8 : (x.toList == [48, 50]) = false := by rw [e1]; decide
  have t9 : (x.toList == [48, 48, 50]) = false := by rw [e1]; decide
  have t10 : (x.toList == [95, 95, 50]) = false := by rw [e1]; decide
  have t11 : (x.toList == [50, 48, 48, 54]) = false := by rw [e1]; decide
  have t12 : (x.toList == [48, 54]) = false := by rw [e1]; decide
  have t13 : (x.toList == [49, 53]) = false := by rw [e1]; decide
  have t14 : (x.toList == [51]) = false := by rw [e1]; decide
  have t15 : (x.toList == [48, 51]) = false := by rw [e1]; decide
  have t16 : (x.toList == [52]) = false := by rw [e1]; decide
  have t17 : (x.toList == [48, 52]) = false := by rw [e1]; decide
  have t18 : (x.toList == [53]) = false := by rw [e1]; decide
  have t19 : (x.toList == [48, 53]) = true := by rw [e1]; decide
  have HX := Lib.hid hx
  have H := Lib.hid C
  have z := C.c5
  have B := Lib.hid (show m.s < 60 by have := C.ok.s; omega)
  have z0 : (0 : Int) ≤ (m.s : Int) := by omega
  clear e1 hx C
  conv => arg 2; whnf
  go_wp2_with fail
  go_at_call 95
  refine (padded_any (m.s) 2 _ _ (rfl) rfl (by have := B.out; omega) (by omega) _ H.out.hp).mono ?_
  rintro r w1 ⟨s, rfl, hs, -, hb⟩
  have HS := Lib.hid (And.intro hs hb)
  clear hs hb
  go_wp2
  obtain ⟨hs, hb⟩ := HS.out
  exact hQ _ _ s (by rfl) rfl (by rw [hs]; rfl) (H.out.below.trans (hb.mono H.out.below.size))
end Go.Proofs.YtchmhdmapknmfaaGreatDoor
