/-
  The reader of JSON: a string without escapes up to its quotation mark.
-/
import Derived.Test.YtchmhdmapknmfaaGreatDoorEe
namespace Go.Proofs.YtchmhdmapknmfaaGreatDoor
open Go.RowKit

theorem Clean.step {c : UInt8} {t : List UInt8} (h : Clean (c :: t)) (m : List UInt8) :
    ∃ R K, Pl.dec (c :: t ++ m) = (R, K) ∧ 0 < K ∧ K ≤ (c :: t).length ∧ Clean ((c :: t).drop K) ∧ (R = 65533 → 2 ≤ K) ∧ 32 ≤ c.toNat ∧ c ≠ 34 ∧ c ≠ 92 := by
  cases h with
  | plain _ _ h1 h2 h3 h4 h5 =>
    exact ⟨_, 1, by rw [List.cons_append]; exact Pl.dec_ascii _ _ h2, by omega, by simp, h5, fun e => by omega, h1, h3, h4⟩
  | good _ _ h1 h2 h3 =>
    obtain ⟨R, K, hd⟩ : ∃ R K, Pl.dec (c :: t) = (R, K) := ⟨_, _, rfl⟩
    have t34 : (34 : UInt8).toNat = 34 := rfl
    have t92 : (92 : UInt8).toNat = 92 := rfl
    have hg := Pl.dec_good h1 h2 ((c :: t).drop (Pl.dec (c :: t)).2 ++ m)
    rw [← List.append_assoc, List.take_append_drop, hd] at hg
    rw [hd] at h3
    exact ⟨R, K, hg.2.2, by have := hg.1; simp only at this; omega, hg.2.1, h3, fun _ => hg.1, by omega, Pl.ne_of_toNat (by omega), Pl.ne_of_toNat (by omega)⟩

/-- What the loop of text keeps. -/
def TxRel (B q : Nat) (s : ByteArray) (k0 : Nat) (d : Int) (w : World) (out : Value) (wr : World) : Prop :=
  ∃ (k : Nat) (T : List UInt8), k0 ≤ k ∧ k ≤ s.size ∧ (bts s).drop k = T ++ [34] ∧ Clean T ∧ wr.ownsRow B 5 1 out (k - k0) (bRow (((bts s).drop k0).take (k - k0))) ∧ JR q s (k : Int) d wr ∧ Keeps B q w wr

theorem at_head {s : ByteArray} {k : Nat} {c : UInt8} {l : List UInt8} (h : (bts s).drop k = c :: l) : ∃ hk : k < s.size, s[k] = c := by
  have hk : k < s.size := by
    rcases Nat.lt_or_ge k s.size with h' | h'
    · exact h'
    · rw [List.drop_of_length_le (by rw [bts_length]; exact h')] at h
      cases h
  have := bts_drop s k hk
  rw [h] at this
  exact ⟨hk, (List.cons.inj this).1.symm⟩

theorem utf8_same {w w' : World} (h : Lib.Utf8Tabs 1 2 w) (e : w'.heap = w.heap) : Lib.Utf8Tabs 1 2 w' := by
  unfold Lib.Utf8Tabs at *
  simpa [World.cell?, e] using h

theorem decode_kept {q k R K : Nat} {d : Int} {s : ByteArray} {wr : World} (h : JR q s k d wr) (hd : Pl.dec ((bts s).drop k) = (R, K)) (W : World) (hT : Lib.Utf8Tabs 1 2 W)
    (e : W.heap = wr.heap ∧ W.os = wr.os ∧ W.tape = wr.tape ∧ W.output = wr.output) :
    Calls Tryz.prog 49 #[.string (s.extract k s.size)] W fun r w' => r = .returned (.tuple #[.int .i32 (R : Int), .int .i64 (K : Int)]) ∧ Below wr.heap.size wr w' ∧
      w'.cell? ⟨q, 0, none⟩ = some (.string s) ∧ w'.cell? ⟨q, 1, none⟩ = some (.int .i64 (k : Int)) := by
  refine (decode_at_k hd W hT).mono ?_
  rintro r w' ⟨rfl, hb⟩
  have hb' : Below wr.heap.size wr w' := by
    rw [e.1] at hb
    exact ⟨hb.os.trans e.2.1, hb.tape.trans e.2.2.1, hb.output.trans e.2.2.2, by rw [← e.1]; exact hb.size, fun j hj => by rw [hb.block j hj, e.1]⟩
  refine ⟨rfl, hb', ?_, ?_⟩
  · rw [hb'.cell h.lt]
    exact h.cells.1
  · rw [hb'.cell h.lt]
    exact h.cells.2.1

theorem text_out {B q n : Nat} {v : Value} {xs : List UInt8} {wr : World} (h : wr.ownsRow B 5 1 v n (bRow xs)) (hq : q < B) (m : Nat) (u : Value) :
    (convert 101 9 v).run Tryz.prog ((wr.drewN m).setCell ⟨q, 1, none⟩ u) = .ok (.string ⟨xs.toArray⟩) ((wr.drewN m).setCell ⟨q, 1, none⟩ u) := by
  have h1 : (wr.drewN m).ownsRow B 5 1 v n (bRow xs) := h
  exact run_string_own (ownsRow_setCell_ne h1 (fun e => by have := own_ge h q e; omega) u)

theorem own_drew {B n : Nat} {v : Value} {xs : List Value} {w : World} (h : w.ownsRow B 5 1 v n xs) : w.drew.ownsRow B 5 1 v n xs := h

theorem JR.grown {B q n : Nat} {s : ByteArray} {k d : Int} {v : Value} {xs : List Value} {w w1 w2 : World} (h : JR q s k d w) (hb : Below w.heap.size w w1) (hg : w1.drew.grownBy w2 v.ownBlock) (ho : w.ownsRow B 5 1 v n xs) (hq : q < B) : JR q s k d w2 := by
  have h1 := h.below hb h.lt
  unfold JR at *
  rw [hg.block q (by have := hb.size; have := lt_of_block h; show q < w1.heap.size; omega) (own_ne ho hq)]
  exact h1

theorem keeps_grown {B q n : Nat} {v : Value} {xs : List Value} {w0 w w1 w2 : World} (h : Keeps B q w0 w) (hb : Below w.heap.size w w1) (hg : w1.drew.grownBy w2 v.ownBlock) (ho : w.ownsRow B 5 1 v n xs) (hB : B ≤ w.heap.size) : Keeps B q w0 w2 := by
  have h1 : Keeps B q w0 w1 := h.trans (Keeps.of_below (hb.mono hB))
  have h2 : Keeps B q w0 w1.drew := h1.trans ⟨rfl, rfl, rfl, Nat.le_refl _, fun _ _ _ => rfl⟩
  exact h2.trans (grown_keeps hg (by have := hb.size; show B ≤ w1.heap.size; omega) (own_ge ho))

theorem tx_next {B q k0 k K n : Nat} {d : Int} {s : ByteArray} {T2 : List UInt8} {w w2 wr : World} {v' : Value} (hd : (bts s).drop (k + K) = T2 ++ [34]) (hc : Clean T2)
    (ho : w2.ownsRow B 5 1 v' n (bRow (((bts s).drop k0).take (k - k0)) ++ Lib.strCells (s.extract k (k + K)))) (hn : n = k + K - k0) (hJ : JR q s k d w2) (hK : Keeps B q w w2)
    (hk0 : k0 ≤ k) (hk2 : k + K ≤ s.size) (hqB : q < B) (hK0 : 0 < K) (hlt : k < s.size) (c1 : wr.cell? ⟨q, 1, none⟩ = some (.int .i64 (k : Int))) :
    TxRel B q s k0 d w v' (w2.setCell ⟨q, 1, none⟩ (.int .i64 ((k : Int) + (K : Int)))) ∧
      s.size - (intOf (((w2.setCell ⟨q, 1, none⟩ (.int .i64 ((k : Int) + (K : Int)))).cell? ⟨q, 1, none⟩).getD (.int .i64 0))).toNat < s.size - (intOf ((wr.cell? ⟨q, 1, none⟩).getD (.int .i64 0))).toNat := by
  have e : (k : Int) + (K : Int) = ((k + K : Nat) : Int) := by omega
  have hJ3 := hJ.at ((k + K : Nat) : Int)
  have he : (bts s).drop k = ((bts s).drop k0).drop (k - k0) := by rw [List.drop_drop, show k0 + (k - k0) = k by omega]
  rw [hn, bRow_str, show (s.extract k (k + K)).data.toList = _ from bts_extract s k (k + K), ← bRow_append, show k + K - k = K by omega, he, ← List.take_add, show k - k0 + K = k + K - k0 by omega] at ho
  rw [e]
  refine ⟨⟨k + K, T2, by omega, hk2, hd, hc, ownsRow_setCell_ne ho (fun e => by have := own_ge ho q e; omega) _, hJ3, Keeps.setCell (b := q) (p := ⟨q, 1, none⟩) hK (.inl rfl) _⟩, ?_⟩
  rw [hJ3.cells.2.1, c1]
  simp [intOf]
  omega

set_option maxRecDepth 100000 in
set_option maxHeartbeats 1000000 in
theorem text_clean {B q k0 : Nat} {d : Int} {s : ByteArray} {T : List UInt8} (w : World) (h : JR q s (k0 : Int) d w) (hT : Lib.Utf8Tabs 1 2 w) (hq : 11 ≤ q) (hqB : q < B) (hB : B ≤ w.heap.size) (hs : s.size ≤ 1000000) (he : (bts s).drop k0 = T ++ [34]) (hc : Clean T) :
    Calls Tryz.prog 69 #[.pointer (some ⟨q, 0, none⟩)] w fun r w' => r = .returned (.tuple #[.string ⟨T.toArray⟩, .bool true]) ∧ JR q s ((k0 + T.length + 1 : Nat) : Int) d w' ∧ Keeps B q w w' := by
  have H := Lib.hid h
  have HT := Lib.hid hT
  have HE := Lib.hid he
  have HC := Lib.hid hc
  have hlen : s.size = k0 + T.length + 1 := by
    have := congrArg List.length he
    rw [List.length_drop, bts_length] at this
    simp at this
    omega
  obtain ⟨i0, hi, hz0, hz1, hz2⟩ := info_parts Tryz.info5
  clear h hT he hc
  go_enter Tryz.func69, Tryz.ntmps69
  go_wp2_with fail
  go_loopw [4] (fun out wr => TxRel B q s k0 d w out wr) (fun _ wr => s.size - (intOf ((wr.cell? ⟨q, 1, none⟩).getD (.int .i64 0))).toNat)
  case atStart => exact ⟨k0, T, Nat.le_refl _, by omega, HE.out, HC.out, by rw [Nat.sub_self]; exact World.ownsRow_nil _ _ _ _, H.out, Keeps.refl _ _ _⟩
  case round =>
    obtain ⟨k, T1, hk0, hk, hdrop, hcl, hown, hJ, hK⟩ := hrel
    have HJ := Lib.hid hJ
    have HK := Lib.hid hK
    have Hown := Lib.hid hown
    obtain ⟨c0, c1, c2, z1, z2⟩ := hJ.cells
    cases T1 with
    | nil =>
      obtain ⟨hlt, hb⟩ := at_head hdrop
      have f1 : ((s[k].toNat : Int) == 34) = true := by rw [hb]; rfl
      have hlt' : (k : Int) < (s.size : Int) := by omega
      have hkk : k = k0 + T.length := by
        have := congrArg List.length hdrop
        rw [List.length_drop, bts_length] at this
        simp at this
        omega
      have etake : ((bts s).drop k0).take (k - k0) = T := by
        rw [HE.out, show k - k0 = T.length by omega]
        exact List.take_left
      rw [etake] at hown
      have hs2 := text_out hown hqB
      have Ek := Lib.hid hkk
      clear hdrop hcl hown hJ hK etake hkk
      go_wp2_with fail
      go_quiet (fail)
      go_wp2_with fail
      go_quiet (fail)
      go_wp2
      go_ret2
      exact ⟨rfl, by rw [← Ek.out]; exact HJ.out.at _, Keeps.setCell (b := q) (p := ⟨q, 1, none⟩) (keeps_drewN HK.out _) (.inl rfl) _⟩
    | cons c T2 =>
      obtain ⟨hlt, hb⟩ := at_head hdrop
      obtain ⟨R, K, hd, hK0, hKl, hC2, hRK, h32, h34, h92⟩ := hcl.step [34]
      have hD := hdrop
      rw [show (c :: T2) ++ [34] = c :: T2 ++ [34] from rfl, ← hdrop] at hd
      have hlen2 : k + T2.length + 2 = s.size := by
        have := congrArg List.length hdrop
        rw [List.length_drop, bts_length] at this
        simp at this
        omega
      have hK2 : k + K ≤ s.size := by simp only [List.length_cons] at hKl; omega
      have HD2 := Lib.hid (show (bts s).drop (k + K) = (c :: T2).drop K ++ [34] by
        rw [← List.drop_drop, hdrop, List.drop_append_of_le_length hKl])
      have HC2 := Lib.hid hC2
      have HTr := Lib.hid (utf8Tabs_keeps HT.out hK hq (by omega))
      have Hd := Lib.hid (fun (W : World) (e : W.heap = wr.heap ∧ W.os = wr.os ∧ W.tape = wr.tape ∧ W.output = wr.output) => decode_kept hJ hd W (utf8_same HTr.out e.1) e)
      have f1 : ((s[k].toNat : Int) == 34) = false := by rw [beq_eq_false_iff_ne, hb]; intro e; exact h34 (UInt8.toNat_inj.1 (by have t : (34 : UInt8).toNat = 34 := rfl; omega))
      have f2 : (32 : Int) ≤ (s[k].toNat : Int) := by rw [hb]; omega
      have f3 : ((s[k].toNat : Int) == 92) = false := by rw [beq_eq_false_iff_ne, hb]; intro e; exact h92 (UInt8.toNat_inj.1 (by have t : (92 : UInt8).toNat = 92 := rfl; omega))
      have hlt' : (k : Int) < (s.size : Int) := by omega
      have hle' : (k : Int) ≤ (s.size : Int) := by omega
      have h0' : (0 : Int) ≤ (k : Int) := by omega
      have Hb := Lib.hid hb
      have HX : Hid ((s.extract k (k + K)).size = K) := by
        have := congrArg List.length (bts_extract s k (k + K))
        rw [bts_length, List.length_take, List.length_drop, bts_length] at this
        show _ = _
        omega
      have Hlen := Lib.hid hlen
      have HK2 := Lib.hid hK2
      have HRK := Lib.hid hRK
      clear hdrop hcl hown hJ hK hd hD hC2 hb h34 h92 h32 hKl hlen hlen2 hK2 hRK
      go_wp2_with fail
      go_quiet (fail)
      go_wp2_with fail
      go_quiet (fail)
      go_wp2_with fail
      go_region_held3 (fun w' => w'.cell? ⟨q, 0, none⟩ = some (.string s) ∧ w'.cell? ⟨q, 1, none⟩ = some (.int .i64 (k : Int))) (go_keep) (first
        | (go_at_call 49; refine (Hd.out _ (by exact ⟨rfl, rfl, rfl, rfl⟩)).mono ?_; rintro r w' ⟨rfl, hbel, d0, d1⟩))
      have Hbel := Lib.hid hbel
      have hcase : (((R : Nat) : Int) == 65533) = true ∧ (2 : Int) ≤ (K : Int) ∨ (((R : Nat) : Int) == 65533) = false := by
        by_cases hR : R = 65533
        · have := HRK.out hR
          exact .inl ⟨by rw [hR]; rfl, by omega⟩
        · exact .inr (by rw [beq_eq_false_iff_ne]; omega)
      have hb1 : (k : Int) + (K : Int) ≤ (s.size : Int) := by have := HK2.out; omega
      have hb2 : (k : Int) ≤ (k : Int) + (K : Int) := by omega
      have hw : IntKind.i64.wrap ((k : Int) + (K : Int)) = (k : Int) + (K : Int) := by rw [IntKind.wrap_i64]; omega
      have hb0 : (0 : Int) ≤ (k : Int) + (K : Int) := by omega
      clear hbel
      rcases hcase with ⟨hr, hk1⟩ | hr
      all_goals
        go_wp2_with fail
        refine wp_region_still_tail 16 (by kernel_rfl) (by kernel_rfl) ?_
        change wpStill Tryz.prog _ (World.drew _) (fun a' => wpList Tryz.prog _ _ _ a' (World.drew _)) _ _
        simp only [List.take_succ_cons, List.take_zero, List.drop_succ_cons, List.drop_zero]
        repeat still_step
        refine wpStill_nil ?_
        go_wp2_with (at_builtin; refine Lib.wpList_append_own_string _ rfl _ _ 101 9 rfl B 5 i0 Tryz.underlying101 Tryz.underlying9 hi hz0 hz1 hz2 _ _ _ rfl (own_drew (ownsRow_below Hown.out Hbel.out)) (s.extract k (k + K)) rfl ?c1 ?c2 ?c3 ?_)
        case c1 => rw [HX.out]; have := HK2.out; unfold maxLen; omega
        case c2 => rw [HX.out]; have := HK2.out; omega
        case c3 => have := HK.out.size; have := Hbel.out.size; simp; omega
        intro v' w2 hown2 hgrow _
        have Hown2 := Lib.hid hown2
        have hJ2 : JR q s k d w2 := HJ.out.grown Hbel.out hgrow Hown.out hqB
        have HJ2 := Lib.hid hJ2
        have HK2' := Lib.hid (keeps_grown HK.out Hbel.out hgrow Hown.out (by have := HK.out.size; omega))
        obtain ⟨e0, e1, e2, y1, y2⟩ := hJ2.cells
        clear hown2 hgrow hJ2
        go_wp2
        exact tx_next HD2.out HC2.out Hown2.out (by have := HK2.out; omega) HJ2.out HK2'.out hk0 HK2.out hqB hK0 hlt c1
end Go.Proofs.YtchmhdmapknmfaaGreatDoor
