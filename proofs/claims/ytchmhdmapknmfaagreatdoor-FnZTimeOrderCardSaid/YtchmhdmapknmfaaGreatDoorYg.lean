/-
  Joined: La Oa Oz OT Oy. (Joined by merge.py out of several texts.)
-/
import Derived.Test.YtchmhdmapknmfaaGreatDoorRows
import Derived.Test.YtchmhdmapknmfaaGreatDoorShelf
import Derived.WalkKit
import Derived.ProofKit
import Derived.PinnedBridge
import Derived.Lay
import Derived.OpenVars
import Derived.Lib.LaidU8
import Derived.Lib.LaidTab
import Derived.Test.YtchmhdmapknmfaaGreatDoorYf
import Derived.Test.YtchmhdmapknmfaaGreatDoorYc
import Derived.LaidMore
import Derived.Lib.SmallJoins

/-
  What the rows' lifts share: the knob, that the layout fits, the tables that the listed variables lay.
-/
namespace Go.Proofs.YtchmhdmapknmfaaGreatDoor
open Go.RowKit Go.ChangeShapes Go.WideShapes Go.ChangeAt

theorem Tryz.own : ownKnob Tryz.prog.godebug = none := by kernel_rfl
theorem Tryz.laidOut : laidOutB Tryz.prog = true := by kernel_rfl

theorem vars3 {H : Type} {enc : TypeId × Value → H} {P : Program} {w : World} {sp : Nat → Bool} {a b c : String} {gs : List (DataW H)} {q : List MemPlace} (h : DataW.TrodVars enc P w sp [a, b, c] gs q) : ∃ g1 g2 g3, gs = [g1, g2, g3] := by
  match gs, h with
  | [], h => exact h.elim
  | g1 :: gs, ⟨_, _, _, _, _, _, _, _, _, _, h, _⟩ =>
    match gs, h with
    | [], h => exact h.elim
    | g2 :: gs, ⟨_, _, _, _, _, _, _, _, _, _, h, _⟩ =>
      match gs, h with
      | [], h => exact h.elim
      | g3 :: gs, ⟨_, _, _, _, _, _, _, _, _, _, h, _⟩ =>
        match gs, h with
        | [], _ => exact ⟨g1, g2, g3, rfl⟩
        | _ :: _, h => exact h.elim

theorem pow10_data : (Rows.laid_internal_strconv_uint64pow10 : DataW Unit) = Lib.tabData .u64 Lib.pow10Tab := by kernel_rfl
theorem accept_data : (Rows.laid_unicode_utf8_acceptRanges : DataW Unit) = Lib.acceptData := by kernel_rfl
theorem first_data : Rows.laid_unicode_utf8_first = Lib.firstData := Pinned.utf8First_eq

/-- The table of powers of ten, out of what the listed variable reads as. -/
theorem pow_of_reads {W : World} (h : Lib.VarReads Tryz.prog W "internal/strconv.uint64pow10" (Lib.tabData .u64 Lib.pow10Tab)) : Lib.TabIs Tryz.prog W "internal/strconv.uint64pow10" .u64 Lib.pow10Tab := by
  obtain ⟨g, t, cs, fuel, p, hg, ht, hv, hd⟩ := h
  have hg8 : Tryz.prog.globalNamed "internal/strconv.uint64pow10" = some 8 := by kernel_rfl
  obtain rfl := Option.some.inj (hg8.symm.trans hg)
  have hty : (Tryz.prog.globals[8]?).map (·.type) = some 280 := by kernel_rfl
  obtain rfl := Option.some.inj (hty.symm.trans ht)
  unfold Lib.TabIs
  rw [hv, ← Lib.cells_of_tab (n := 20) Tryz.underlying280 Tryz.underlying86 (by kernel_rfl) (by kernel_rfl) hd]

/-- The variables down to number 10 lie in memory. -/
theorem heap11 {W : World} {d : DataW Unit} (h : Lib.VarReads Tryz.prog W "math/bits.deBruijn64tab" d) : 11 ≤ W.heap.size := by
  obtain ⟨g, t, cs, fuel, p, hg, _, hv, _⟩ := h
  have hg10 : Tryz.prog.globalNamed "math/bits.deBruijn64tab" = some 10 := by kernel_rfl
  unfold World.var? at hv
  rw [hg10] at hv
  simp only [Option.bind_some] at hv
  rcases Nat.lt_or_ge 10 W.heap.size with h' | h'
  · exact h'
  · rw [Array.getElem?_eq_none h'] at hv; cases hv
end Go.Proofs.YtchmhdmapknmfaaGreatDoor

/-
  A moment of the law's: what fits, the years, its text by a layout.
-/
namespace Go.Proofs.YtchmhdmapknmfaaGreatDoor
open Go.RowKit
attribute [local go_sem ↓] Go.wp_at_zero Go.wp_at_succ

set_option maxRecDepth 100000 in
set_option maxHeartbeats 1000000 in
theorem fits10_yes (zb : Bool) (N off : Int) (Z : ByteArray) (h : Z.size ≤ 2147483647) (w : World) : Calls Tryz.prog 20 #[moV zb N off Z] w fun r w' => r = .returned (.bool true) ∧ Below w.heap.size w w' := by
  have h' : (Z.size : Int) ≤ 2147483647 := by omega
  unfold moV
  go_enter Tryz.func20, Tryz.ntmps20
  go_wp2
  go_ret
  exact ⟨rfl, (Below.refl _ w).alloc (Nat.le_refl _) _⟩

set_option maxRecDepth 100000 in
set_option maxHeartbeats 1000000 in
theorem fits10_no (zb : Bool) (N off : Int) (Z : ByteArray) (h : 2147483647 < Z.size) (w : World) : Calls Tryz.prog 20 #[moV zb N off Z] w fun r w' => r = .returned (.bool false) ∧ Below w.heap.size w w' := by
  have h' : (2147483647 : Int) < (Z.size : Int) := by omega
  unfold moV
  go_enter Tryz.func20, Tryz.ntmps20
  go_wp2
  go_ret
  exact ⟨rfl, (Below.refl _ w).alloc (Nat.le_refl _) _⟩

set_option maxRecDepth 100000 in
set_option maxHeartbeats 1000000 in
theorem years_yes (N off : Int) (Z : ByteArray) (h1 : -86400 < off) (h2 : off < 86400) (h3 : off % 60 = 0) (w : World) :
    Calls Tryz.prog 21 #[moV false N off Z] w fun r w' => r = .returned (.bool true) ∧ Below w.heap.size w w' := by
  unfold moV
  have f3 : (off.tmod 60 == 0) = true := beq_iff_eq.2 (Int.tmod_eq_zero_of_dvd (Int.dvd_of_emod_eq_zero h3))
  clear h3
  go_enter Tryz.func21, Tryz.ntmps21
  go_wp2
  go_ret
  exact ⟨rfl, (Below.refl _ w).alloc (Nat.le_refl _) _⟩

set_option maxRecDepth 100000 in
set_option maxHeartbeats 1000000 in
theorem years_no (zb : Bool) (N off : Int) (Z : ByteArray) (h : ¬ (zb = false ∧ -86400 < off ∧ off < 86400 ∧ off % 60 = 0)) (w : World) :
    Calls Tryz.prog 21 #[moV zb N off Z] w fun r w' => r = .returned (.bool false) ∧ Below w.heap.size w w' := by
  unfold moV
  cases zb with
  | true =>
    clear h
    go_enter Tryz.func21, Tryz.ntmps21
    go_wp2
    go_ret
    exact ⟨rfl, (Below.refl _ w).alloc (Nat.le_refl _) _⟩
  | false =>
    by_cases h1 : -86400 < off
    · by_cases h2 : off < 86400
      · have h3 : off.tmod 60 ≠ 0 := fun h4 => h ⟨rfl, h1, h2, Int.emod_eq_zero_of_dvd (Int.dvd_of_tmod_eq_zero h4)⟩
        have f3 : (off.tmod 60 == 0) = false := beq_eq_false_iff_ne.2 h3
        clear h3 h
        go_enter Tryz.func21, Tryz.ntmps21
        go_wp2
        go_ret
        exact ⟨rfl, (Below.refl _ w).alloc (Nat.le_refl _) _⟩
      · have h2' : 86400 ≤ off := by omega
        clear h h2
        go_enter Tryz.func21, Tryz.ntmps21
        go_wp2
        go_ret
        exact ⟨rfl, (Below.refl _ w).alloc (Nat.le_refl _) _⟩
    · have h1' : off ≤ -86400 := by omega
      clear h h1
      go_enter Tryz.func21, Tryz.ntmps21
      go_wp2
      go_ret
      exact ⟨rfl, (Below.refl _ w).alloc (Nat.le_refl _) _⟩

/-- The tables of package time. -/
structure Tabs (w : World) : Prop where
  H : 11 ≤ w.heap.size
  std0 : Std0 w
  mon : NameTab 5 Ly.monthNames w.heap.size w
  day : NameTab 6 Ly.dayNames w.heap.size w

theorem NameTab.mono {g B B' : Nat} {L : List (List UInt8)} {w : World} (h : NameTab g L B w) (hB : B ≤ B') : NameTab g L B' w := by
  obtain ⟨q, o, c, h1, h2, h3, h4⟩ := h
  exact ⟨q, o, c, h1, by omega, by omega, h4⟩
theorem Tabs.below {B : Nat} {w w' : World} (h : Tabs w) (hb : Below B w w') (hB : w.heap.size ≤ B) : Tabs w' :=
  ⟨Nat.le_trans h.H hb.size, h.std0.below11 hb (Nat.le_trans h.H hB), (h.mon.below (hb.mono hB)).mono hb.size, (h.day.below (hb.mono hB)).mono hb.size⟩

theorem tmCtx_of {N off te na : Int} {Z : ByteArray} {w : World} (hT : Tabs w) (h1 : -9223372036854775808 ≤ N) (h2 : N ≤ 9223372036854775807) (h4 : -86400 < off) (h5 : off < 86400) (h6 : off % 60 = 0) (h7 : Z.size ≤ 200) (he : te = N / 1000000000 + 62135596800) (hn : na = N % 1000000000) :
    TmCtx w.heap.size Z off te na (Ly.moOf N off (bts Z)) (Ly.secs N off) w := by
  have g := Ly.secs_ge h1 h4
  refine ⟨Ly.moOf_ok h1 h2 h4 h5 h6 (by rw [bts_length]; exact h7), rfl, rfl, by rw [g.2, he]; omega, by omega, by omega, g.1, Ly.secs_lt h2 h5, ?_, hT.H, Nat.le_refl _, hT.std0, hT.mon, hT.day⟩
  show na = ((N % 1000000000).toNat : Int)
  omega

set_option maxRecDepth 100000 in
set_option maxHeartbeats 1000000 in
theorem layoutText_any (N off : Int) (Z l : ByteArray) (w : World) (hT : Tabs w) (h1 : -9223372036854775808 ≤ N) (h2 : N ≤ 9223372036854775807) (h4 : -86400 < off) (h5 : off < 86400) (h6 : off % 60 = 0) (h7 : Z.size ≤ 200) (hl : l.size ≤ 600) :
    Calls Tryz.prog 22 #[moV false N off Z, .string l] w fun r w' => r = .returned (.string ⟨(Ly.lay (Ly.txt (Ly.moOf N off (bts Z))) (bts l)).toArray⟩) ∧ Below w.heap.size w w' := by
  have Hm := Lib.hid (fun W => moment_any N off Z W h1 h2)
  have HT := Lib.hid hT
  have HF := Lib.hid (fun (W : World) (te na : Int) (hb : Below w.heap.size w W) (he : te = N / 1000000000 + 62135596800) (hn : na = N % 1000000000) => layFormat_any l Z te na off (Ly.moOf N off (bts Z)) (Ly.secs N off) W (tmCtx_of (hT.below hb (Nat.le_refl _)) h1 h2 h4 h5 h6 h7 he hn) (.inl rfl) hl)
  clear hT h1 h2 h4 h5 h6 h7 hl
  unfold moV
  go_enter Tryz.func22, Tryz.ntmps22
  go_wp2_with fail
  go_at_call 50
  refine (Hm.out _).mono ?_
  rintro r w1 ⟨te, na, rfl, he, hn, hb1⟩
  have Hb1 := Lib.hid (((Below.refl w.heap.size w).alloc (Nat.le_refl _) _).trans (hb1.mono (by simp)))
  have He := Lib.hid he
  have Hn := Lib.hid hn
  clear he hn hb1
  go_wp2_with fail
  go_at_call 51
  refine (HF.out _ te na Hb1.out He.out Hn.out).mono ?_
  rintro r w2 ⟨rfl, hb2⟩
  have Hb2 := Lib.hid (Hb1.out.trans (hb2.mono Hb1.out.size))
  clear hb2
  go_wp2
  go_ret
  exact ⟨rfl, Hb2.out⟩

theorem layN_len {W : Int → List UInt8} (hW : ∀ s, (W s).length ≤ 300) : ∀ (n : Nat) (l : List UInt8), (Ly.layN W n l).length ≤ 300 * l.length
  | 0, _ => Nat.zero_le _
  | n + 1, [] => Nat.zero_le _
  | n + 1, c :: r => by
    unfold Ly.layN
    cases hc : Ly.ck (c :: r) with
    | none =>
      have := layN_len hW n r
      simp only [List.length_cons]
      omega
    | some p =>
      obtain ⟨s, k⟩ := p
      have h1 := Ly.ck_len hc
      have h2 := layN_len hW n ((c :: r).drop k)
      have h3 := hW s
      simp only [List.length_append]
      rw [List.length_drop] at h2
      omega
theorem lay_len {m : Ly.Mo} (h : m.Ok) (l : List UInt8) : (Ly.lay (Ly.txt m) l).length ≤ 300 * l.length := layN_len (fun s => Ly.txt_len h s) _ l
end Go.Proofs.YtchmhdmapknmfaaGreatDoor

/-
  A moment's block in the laws; ZLayoutText where it stands.
-/
namespace Go.Proofs.YtchmhdmapknmfaaGreatDoor
open Go.RowKit

theorem year_zero : Ly.lay (Ly.txt (Ly.moOf 0 0 (bts ⟨#[]⟩))) [50, 48, 48, 54] = [49, 57, 55, 48] := by kernel_rfl

/-- The moment's block stands. -/
def LpS (zb : Bool) (N off : Int) (Z : ByteArray) (w w' : World) : Prop := Below (w.heap.size + 1) (w.alloc (.cells #[.bool zb, .int .i64 N, .int .i64 off, .string Z] 39)) w'

theorem LpS.step {zb : Bool} {N off : Int} {Z : ByteArray} {w w1 w2 : World} (h : LpS zb N off Z w w1) (hb : Below w1.heap.size w1 w2) : LpS zb N off Z w w2 := by
  have hs := h.size
  simp only [World.alloc, Array.size_push] at hs
  exact Below.trans h (hb.mono (by omega))
theorem LpS.below {zb : Bool} {N off : Int} {Z : ByteArray} {w w1 : World} (h : LpS zb N off Z w w1) : Below w.heap.size w w1 :=
  ((Below.refl _ w).alloc (Nat.le_refl _) _).trans (Below.mono h (by omega))
theorem LpS.start {zb : Bool} {N off : Int} {Z : ByteArray} {w w1 : World} (hb : Below (w.alloc (.cells #[.bool zb, .int .i64 N, .int .i64 off, .string Z] 39)).heap.size (w.alloc (.cells #[.bool zb, .int .i64 N, .int .i64 off, .string Z] 39)) w1) : LpS zb N off Z w w1 := hb.mono (by simp)

/-- ZLayoutText in a world where the moment's block stands. -/
def LtSays (N off : Int) (Z : ByteArray) (w : World) (v : Value) (l s : ByteArray) : Prop :=
  ∀ W, LpS false N off Z w W → Calls Tryz.prog 22 #[v, .string l] W fun r w' => r = .returned (.string s) ∧ LpS false N off Z w w' ∧
    w'.cell? ⟨w.heap.size, 0, none⟩ = some (.bool false) ∧ w'.cell? ⟨w.heap.size, 1, none⟩ = some (.int .i64 N) ∧ w'.cell? ⟨w.heap.size, 2, none⟩ = some (.int .i64 off) ∧ w'.cell? ⟨w.heap.size, 3, none⟩ = some (.string Z)

theorem ltSays_any {N off N' off' : Int} {Z Z' l s : ByteArray} {w : World} (hT : Tabs w) (h1 : -9223372036854775808 ≤ N') (h2 : N' ≤ 9223372036854775807) (h4 : -86400 < off') (h5 : off' < 86400) (h6 : off' % 60 = 0) (h7 : Z'.size ≤ 200) (hl : l.size ≤ 600)
    (hs : s = ⟨(Ly.lay (Ly.txt (Ly.moOf N' off' (bts Z'))) (bts l)).toArray⟩) : LtSays N off Z w (moV false N' off' Z') l s := by
  intro W hW
  refine (layoutText_any N' off' Z' l W (hT.below hW.below (Nat.le_refl _)) h1 h2 h4 h5 h6 h7 hl).mono ?_
  rintro r w' ⟨rfl, hb⟩
  have h3 := hW.step hb
  exact ⟨by rw [hs], h3, mo_cells w N off Z false w' h3⟩

theorem bts_ext {a b : ByteArray} (h : bts a = bts b) : a = b := by
  cases a with
  | mk x =>
    cases b with
    | mk y =>
      have : x = y := Array.toList_inj.1 h
      rw [this]

end Go.Proofs.YtchmhdmapknmfaaGreatDoor

/-
  The tables of package time, out of what the listed variables read as.
-/
namespace Go.Proofs.YtchmhdmapknmfaaGreatDoor
open Go.RowKit Go.ChangeShapes Go.WideShapes Go.ChangeAt

theorem cell_of_var {W : World} {name : String} {g : Nat} {cs : Array Value} (hg : Tryz.prog.globalNamed name = some g) (hv : W.var? Tryz.prog name = some cs) (i : Nat) : W.cell? ⟨g, i, none⟩ = cs[i]? := by
  unfold World.var? at hv
  rw [hg] at hv
  simp only [Option.bind_some] at hv
  split at hv
  · rename_i heq
    cases hv
    simp [World.cell?, heq]
  · cases hv
theorem lt_of_cell {W : World} {b i : Nat} {v : Value} (h : W.cell? ⟨b, i, none⟩ = some v) : b < W.heap.size := by
  rcases Nat.lt_or_ge b W.heap.size with h' | h'
  · exact h'
  · simp [World.cell?, Array.getElem?_eq_none h'] at h

theorem names_of_reads {W : World} {name : String} {g : Nat} {L : List (List UInt8)} (hL : 0 < L.length) (hg : Tryz.prog.globalNamed name = some g) (hty : (Tryz.prog.globals[g]?).map (·.type) = some 22)
    (h : Lib.VarReads Tryz.prog W name (DataW.slice (L.map fun x => .lit (.string x)) [])) : NameTab g L W.heap.size W := by
  obtain ⟨g', t, cs, fuel, p, hg', ht, hv, hd⟩ := h
  obtain rfl := Option.some.inj (hg.symm.trans hg')
  obtain rfl := Option.some.inj (hty.symm.trans ht)
  obtain ⟨a, cap, hcs, hle, hel⟩ := open_row Tryz.underlying22 (by kernel_rfl) hd
  have e : ∀ i (h : i < L.length), W.cell? (a.add i) = some (.string ⟨L[i].toArray⟩) := by
    intro i h
    obtain ⟨v, n, q, h1, h2⟩ := hel i (.lit (.string L[i])) (by simp [h])
    obtain ⟨s, h3, h4, -⟩ := DataW.trod_string Tryz.underlying9 h2
    rw [h1]
    have h5 : v = .string s := by simpa using h3
    have h6 : L[i] = s.data.toList := by
      have h7 : L[i] = s.data.toList ∧ q = [] := by simpa using h4
      exact h7.1
    rw [h5, h6]
  obtain ⟨b, o, sp⟩ := a
  have hsp : sp = none := by simpa [Addr.add] using World.cell?_spot (e 0 hL)
  subst hsp
  have hadd : ∀ i, (⟨b, o, none⟩ : Addr).add i = ⟨b, o + i, none⟩ := fun i => by unfold Addr.add; split <;> simp_all
  have hcs0 : cs[0]? = some (.slice (some ⟨b, o, none⟩) L.length cap) := by
    have h1 : cs.toList[0]? = some (.slice (some ⟨b, o, none⟩) L.length cap) := by rw [hcs]; simp
    simpa using h1
  have c0 := cell_of_var hg hv 0
  rw [hcs0] at c0
  have e0 := e 0 hL
  rw [hadd] at e0
  exact ⟨b, o, cap, c0, lt_of_cell c0, lt_of_cell e0, fun i h => by rw [← hadd]; exact e i h⟩

theorem months_data : (Rows.laid_given_example_pub_quill_pub_ztime_longMonthNames : DataW Unit) = DataW.slice (Ly.monthNames.map fun x => .lit (.string x)) [] := by kernel_rfl
theorem days_data : (Rows.laid_given_example_pub_quill_pub_ztime_longDayNames : DataW Unit) = DataW.slice (Ly.dayNames.map fun x => .lit (.string x)) [] := by kernel_rfl
theorem std0_data : (Rows.laid_given_example_pub_quill_pub_ztime_std0x : DataW Unit) = Lib.tabData .i64 [260, 265, 1038, 1040, 1042, 276] := by kernel_rfl

theorem std0_of_reads {W : World} (h : Lib.VarReads Tryz.prog W "given.example/pub-quill/pub/ztime.std0x" (Lib.tabData .i64 [260, 265, 1038, 1040, 1042, 276])) : Std0 W := by
  obtain ⟨g, t, cs, fuel, p, hg, ht, hv, hd⟩ := h
  have hg4 : Tryz.prog.globalNamed "given.example/pub-quill/pub/ztime.std0x" = some 4 := by kernel_rfl
  obtain rfl := Option.some.inj (hg4.symm.trans hg)
  have hty : (Tryz.prog.globals[4]?).map (·.type) = some 264 := by kernel_rfl
  obtain rfl := Option.some.inj (hty.symm.trans ht)
  have hc := Lib.cells_of_tab (n := 6) Tryz.underlying264 Tryz.underlying3 (by kernel_rfl) (by kernel_rfl) hd
  have e : ∀ i, W.cell? ⟨4, i, none⟩ = cs.toList[i]? := fun i => by rw [cell_of_var hg hv i]; simp
  unfold Std0
  simp only [e, hc]
  exact ⟨rfl, rfl, rfl, rfl, rfl, rfl⟩

theorem tabs_of_reads {W : World} (h1 : Lib.VarReads Tryz.prog W "given.example/pub-quill/pub/ztime.std0x" (Rows.laid_given_example_pub_quill_pub_ztime_std0x : DataW Unit)) (h2 : Lib.VarReads Tryz.prog W "given.example/pub-quill/pub/ztime.longMonthNames" (Rows.laid_given_example_pub_quill_pub_ztime_longMonthNames : DataW Unit))
    (h3 : Lib.VarReads Tryz.prog W "given.example/pub-quill/pub/ztime.longDayNames" (Rows.laid_given_example_pub_quill_pub_ztime_longDayNames : DataW Unit)) (hH : 11 ≤ W.heap.size) : Tabs W :=
  ⟨hH, std0_of_reads (std0_data ▸ h1), names_of_reads (g := 5) (by decide) (by kernel_rfl) (by kernel_rfl) (months_data ▸ h2), names_of_reads (g := 6) (by decide) (by kernel_rfl) (by kernel_rfl) (days_data ▸ h3)⟩
end Go.Proofs.YtchmhdmapknmfaaGreatDoor

/-
  A moment by value, opened; four variables.
-/
namespace Go.Proofs.YtchmhdmapknmfaaGreatDoor
open Go.RowKit Go.ChangeShapes Go.WideShapes Go.ChangeAt
open Go.ChangeMaps (open_string shut_string)

theorem vars4 {H : Type} {enc : TypeId × Value → H} {P : Program} {w : World} {sp : Nat → Bool} {a b c d : String} {gs : List (DataW H)} {q : List MemPlace} (h : DataW.TrodVars enc P w sp [a, b, c, d] gs q) : ∃ g1 g2 g3 g4, gs = [g1, g2, g3, g4] := by
  match gs, h with
  | [], h => exact h.elim
  | g1 :: gs, ⟨_, _, _, _, _, _, _, _, _, _, h, _⟩ =>
    obtain ⟨g2, g3, g4, rfl⟩ := vars3 h
    exact ⟨g1, g2, g3, g4, rfl⟩

set_option maxRecDepth 100000 in
/-- A moment by value, opened: what it holds. -/
theorem open_moment {H : Type} {enc : TypeId × Value → H} {W : World} {base : Nat} {sp : Nat → Bool} {held : Bool} {r : Reach} {b0 : Nat} {v : Value} {d : DataW H} {ps : List MemPlace} (hv : Value.okWide Tryz.prog W r b0 39 v) (h : DataW.Trod enc Tryz.prog W base sp held 39 v d ps) :
    ∃ (zb : Bool) (N off : Int) (Z : ByteArray), v = moV zb N off Z ∧ -9223372036854775808 ≤ N ∧ N ≤ 9223372036854775807 ∧ ps = [] ∧ ∀ (W' : World) (sp' : Nat → Bool), DataW.Trod enc Tryz.prog W' base sp' held 39 v d ps := by
  obtain ⟨v0, v1, v2, v3, y0, y1, y2, y3, n, rfl, rfl, rfl, t0, t1, t2, t3⟩ := Joins.open_agg4 Tryz.underlying39 (by kernel_rfl) (by kernel_rfl) hv h
  obtain ⟨zb, e0, rfl⟩ := DataW.trod_bool Tryz.underlying4 t0
  obtain ⟨N, e1, rfl, w1⟩ := DataW.trod_int Tryz.underlying2 t1
  obtain ⟨off, e2, rfl, w2⟩ := DataW.trod_int Tryz.underlying3 t2
  obtain ⟨Z, e3, rfl, w3⟩ := DataW.trod_string Tryz.underlying9 t3
  obtain rfl : v0 = .bool zb := by simpa using e0
  obtain rfl : v1 = .int .i64 N := by simpa using e1
  obtain rfl : v2 = .int .i64 off := by simpa using e2
  obtain rfl : v3 = .string Z := by simpa using e3
  have hN : -9223372036854775808 ≤ N ∧ N ≤ 9223372036854775807 := by
    have e : (Lit.int .i64 N).wf = (decide (-9223372036854775808 ≤ N) && decide (N ≤ 9223372036854775807)) := rfl
    rw [e] at w1
    simpa using w1
  exact ⟨zb, N, off, Z, rfl, hN.1, hN.2, rfl, fun W' sp' => Joins.shut_agg4 Tryz.underlying39 (by kernel_rfl) (by kernel_rfl) (shut_bool Tryz.underlying4 zb) (shut_int Tryz.underlying2 w1) (shut_int Tryz.underlying3 w2) (shut_string Tryz.underlying9 w3)⟩

end Go.Proofs.YtchmhdmapknmfaaGreatDoor
