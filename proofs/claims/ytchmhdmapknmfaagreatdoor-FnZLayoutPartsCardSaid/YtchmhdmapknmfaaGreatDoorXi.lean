/-
  appendFormat: the loop. (Joined by merge.py out of several texts.)
-/
import Derived.Test.YtchmhdmapknmfaaGreatDoorXd
import Derived.Test.YtchmhdmapknmfaaGreatDoorXc
import Derived.Test.YtchmhdmapknmfaaGreatDoorXe
import Derived.Test.YtchmhdmapknmfaaGreatDoorXf
import Derived.Test.YtchmhdmapknmfaaGreatDoorXg
import Derived.Test.YtchmhdmapknmfaaGreatDoorXh

/-
  appendFormat: the switch over a part's code, the round, the loop, the whole (printed by gen_Me.py).
-/
namespace Go.Proofs.YtchmhdmapknmfaaGreatDoor
open Go.RowKit

/-- What stays as it is while a moment is written: what the Time holds, the tables. -/
structure AfCtx (B p : Nat) (Z : ByteArray) (off A D te na : Int) (m : Ly.Mo) (t : Nat) (w : World) : Prop where
  ok : m.Ok
  hoff : off = m.off
  hzone : m.zone = bts Z
  hmo : m = Ly.moAt t m.na m.off m.zone
  hA : A = 9223371966606163200 + (t : Int)
  hD : D = 106751990353932 + ((t / 86400 + 306 : Nat) : Int)
  t1 : 3155760000 ≤ t
  t2 : t < 100000000000
  hna : na = (m.na : Int)
  B11 : 11 ≤ B
  hB : B ≤ w.heap.size
  hp : p < w.heap.size
  std0 : Std0 w
  mon : NameTab 5 Ly.monthNames B w
  day : NameTab 6 Ly.dayNames B w
  c0 : w.cell? ⟨p, 0, none⟩ = some (.int .i64 te)
  c1 : w.cell? ⟨p, 1, none⟩ = some (.int .i32 na)
  c2 : w.cell? ⟨p, 2, none⟩ = some (.string Z)
  c3 : w.cell? ⟨p, 3, none⟩ = some (.int .i64 off)

theorem Std0.below11 {B : Nat} {w w' : World} (h : Std0 w) (hb : Below B w w') (hB : 11 ≤ B) : Std0 w' := by
  unfold Std0 at *
  have e : ∀ i, w'.cell? ⟨4, i, none⟩ = w.cell? ⟨4, i, none⟩ := fun i => hb.cell (by show 4 < _; omega)
  simp only [e]
  exact h

theorem AfCtx.gw {B p : Nat} {Z : ByteArray} {off A D te na : Int} {m : Ly.Mo} {t : Nat} {w w' : World} {v v' : Value} (h : AfCtx B p Z off A D te na m t w) (hv : ∀ k, v.ownBlock = some k → B ≤ k ∧ k ≠ p) (g : Gw v w v' w') : AfCtx B p Z off A D te na m t w' := by
  have hb : Below B w w' := g.below (fun k hk => (hv k hk).1) h.hB
  have hc : ∀ i, w'.cell? ⟨p, i, none⟩ = w.cell? ⟨p, i, none⟩ := fun i => World.cell?_of_block (w := w) (g.1.block p h.hp (fun e => (hv p e.symm).2 rfl))
  exact ⟨h.ok, h.hoff, h.hzone, h.hmo, h.hA, h.hD, h.t1, h.t2, h.hna, h.B11, Nat.le_trans h.hB hb.size, Nat.lt_of_lt_of_le h.hp hb.size, h.std0.below11 hb h.B11, h.mon.below hb, h.day.below hb, by rw [hc]; exact h.c0, by rw [hc]; exact h.c1, by rw [hc]; exact h.c2, by rw [hc]; exact h.c3⟩

theorem own_gw {p : Nat} {v v' : Value} {w w' : World} (hv : ∀ k, v.ownBlock = some k → k ≠ p) (hp : p < w.heap.size) (g : Gw v w v' w') : ∀ k, v'.ownBlock = some k → k ≠ p := by
  intro k hk
  rcases g.2 k hk with h | h
  · exact hv k h
  · omega

theorem ck_code {l : List UInt8} {std : Int} {k : Nat} (h : Ly.ck l = some (std, k)) (hl : l.length ≤ 1000) : Ly.Code? 1000 std := by
  rcases Ly.ck_has l std k h with h1 | ⟨c, d, n, h1, h2, h3, h4, h5⟩
  · exact .inl h1
  · exact .inr ⟨c, d, n, h1, h2, h3, h4, by omega⟩

theorem fr_of {c d : UInt8} {n : Nat} (hc : c = 46 ∨ c = 44) (h1 : 1 ≤ n) (hn : n ≤ 1000) : Fr (Ly.frac c d n) (if d = 57 then 35 else 34) (if c = 44 then 268435456 else 0) n c := by
  refine ⟨?_, ?_, ?_, h1, hn⟩
  · unfold Ly.frac
    rw [Nat.mod_eq_of_lt (by omega)]
  · split
    · exact .inr rfl
    · exact .inl rfl
  · rcases hc with rfl | rfl
    · exact .inl ⟨rfl, rfl⟩
    · exact .inr ⟨rfl, rfl⟩

set_option maxRecDepth 100000 in
set_option maxHeartbeats 4000000 in
theorem af_switch {B p : Nat} {v : Value} {l Z : ByteArray} {off A D y mo d yd h mi s : Int} {v18 v20 v92 : Value} {xs : List UInt8} {a : Act} {w : World} {m : Ly.Mo} {te na std : Int} {t : Nat} (Q : Exit → Act → World → Prop) (C : AfCtx B p Z off A D te na m t w) (hs : Ly.Code? 1000 std) (ha : Af v l p Z off A D y mo d yd h mi s v18 (.int .i64 std) v20 v92 a) (hb : BR B v xs w) (hx : xs.length ≤ 890000)
    (n1 : bits BinOp.and IntKind.i64 std 256 ≠ 0 → y = (m.y : Int) ∧ mo = (m.mo : Int) ∧ d = (m.d : Int)) (n2 : bits BinOp.and IntKind.i64 std 512 ≠ 0 → yd = (m.yd : Int)) (n3 : bits BinOp.and IntKind.i64 std 1024 ≠ 0 → h = (m.h : Int) ∧ mi = (m.mi : Int) ∧ s = (m.s : Int))
    (hQ : ∀ v' a' w' u18 u19 u20 u92, Af v' l p Z off A D y mo d yd h mi s u18 u19 u20 u92 a' → BR B v' (xs ++ Ly.txt m std) w' → Gw v w v' w' → Q .normal a' w') : Code.wp Tryz.prog afSw Q a w := by
  have hw : m.wd = (t / 86400 + 306 + 3) % 7 := by rw [C.hmo]; rfl
  rcases hs with hs | ⟨c, dd, n, rfl, hc, hd, h1, hn⟩
  · simp only [Ly.stds, List.mem_cons, List.not_mem_nil, or_false] at hs
    rcases hs with rfl | rfl | rfl | rfl | rfl | rfl | rfl | rfl | rfl | rfl | rfl | rfl | rfl | rfl | rfl | rfl | rfl | rfl | rfl | rfl | rfl | rfl | rfl | rfl | rfl | rfl | rfl | rfl | rfl | rfl | rfl | rfl | rfl
    · exact sw_257 Q C.ok ha hb hx C.hB (n1 (by decide)).1 (n1 (by decide)).2.1 (n1 (by decide)).2.2 C.mon hQ
    · exact sw_258 Q C.ok ha hb hx C.hB (n1 (by decide)).1 (n1 (by decide)).2.1 (n1 (by decide)).2.2 C.mon hQ
    · exact sw_259 Q C.ok ha hb hx C.hB (n1 (by decide)).1 (n1 (by decide)).2.1 (n1 (by decide)).2.2 hQ
    · exact sw_260 Q C.ok ha hb hx C.hB (n1 (by decide)).1 (n1 (by decide)).2.1 (n1 (by decide)).2.2 hQ
    · exact sw_261 Q C.ok ha hb hx C.hB C.hD (by have := C.t2; omega) hw C.day hQ
    · exact sw_262 Q C.ok ha hb hx C.hB C.hD (by have := C.t2; omega) hw C.day hQ
    · exact sw_263 Q C.ok ha hb hx C.hB (n1 (by decide)).1 (n1 (by decide)).2.1 (n1 (by decide)).2.2 hQ
    · exact sw_264 Q C.ok ha hb hx C.hB (n1 (by decide)).1 (n1 (by decide)).2.1 (n1 (by decide)).2.2 hQ
    · exact sw_265 Q C.ok ha hb hx C.hB (n1 (by decide)).1 (n1 (by decide)).2.1 (n1 (by decide)).2.2 hQ
    · exact sw_522 Q C.ok ha hb hx C.hB (n2 (by decide)) hQ
    · exact sw_523 Q C.ok ha hb hx C.hB (n2 (by decide)) hQ
    · exact sw_1036 Q C.ok ha hb hx C.hB (n3 (by decide)).1 (n3 (by decide)).2.1 (n3 (by decide)).2.2 hQ
    · exact sw_1037 Q C.ok ha hb hx C.hB (n3 (by decide)).1 (n3 (by decide)).2.1 (n3 (by decide)).2.2 hQ
    · exact sw_1038 Q C.ok ha hb hx C.hB (n3 (by decide)).1 (n3 (by decide)).2.1 (n3 (by decide)).2.2 hQ
    · exact sw_1039 Q C.ok ha hb hx C.hB (n3 (by decide)).1 (n3 (by decide)).2.1 (n3 (by decide)).2.2 hQ
    · exact sw_1040 Q C.ok ha hb hx C.hB (n3 (by decide)).1 (n3 (by decide)).2.1 (n3 (by decide)).2.2 hQ
    · exact sw_1041 Q C.ok ha hb hx C.hB (n3 (by decide)).1 (n3 (by decide)).2.1 (n3 (by decide)).2.2 hQ
    · exact sw_1042 Q C.ok ha hb hx C.hB (n3 (by decide)).1 (n3 (by decide)).2.1 (n3 (by decide)).2.2 hQ
    · exact sw_275 Q C.ok ha hb hx C.hB (n1 (by decide)).1 (n1 (by decide)).2.1 (n1 (by decide)).2.2 hQ
    · exact sw_276 Q C.ok ha hb hx C.hB (n1 (by decide)).1 (n1 (by decide)).2.1 (n1 (by decide)).2.2 hQ
    · exact sw_1045 Q C.ok ha hb hx C.hB (n3 (by decide)).1 (n3 (by decide)).2.1 (n3 (by decide)).2.2 hQ
    · exact sw_1046 Q C.ok ha hb hx C.hB (n3 (by decide)).1 (n3 (by decide)).2.1 (n3 (by decide)).2.2 hQ
    · by_cases hz : Z.size = 0
      · by_cases h0 : m.off < 0
        · exact sw_23_neg Q C.ok ha hb hx C.hB C.hoff C.hzone hz h0 hQ
        · exact sw_23_pos Q C.ok ha hb hx C.hB C.hoff C.hzone hz (by omega) hQ
      · exact sw_23_name Q C.ok ha hb hx C.hB C.hzone (by omega) hQ
    · rcases Int.lt_trichotomy m.off 0 with h0 | h0 | h0
      · exact sw_24_neg Q C.ok ha hb hx C.hB C.hoff h0 hQ
      · exact sw_24_zero Q C.ok ha hb hx C.hB C.hoff h0 hQ
      · exact sw_24_pos Q C.ok ha hb hx C.hB C.hoff h0 hQ
    · rcases Int.lt_trichotomy m.off 0 with h0 | h0 | h0
      · exact sw_25_neg Q C.ok ha hb hx C.hB C.hoff h0 hQ
      · exact sw_25_zero Q C.ok ha hb hx C.hB C.hoff h0 hQ
      · exact sw_25_pos Q C.ok ha hb hx C.hB C.hoff h0 hQ
    · rcases Int.lt_trichotomy m.off 0 with h0 | h0 | h0
      · exact sw_26_neg Q C.ok ha hb hx C.hB C.hoff h0 hQ
      · exact sw_26_zero Q C.ok ha hb hx C.hB C.hoff h0 hQ
      · exact sw_26_pos Q C.ok ha hb hx C.hB C.hoff h0 hQ
    · rcases Int.lt_trichotomy m.off 0 with h0 | h0 | h0
      · exact sw_27_neg Q C.ok ha hb hx C.hB C.hoff h0 hQ
      · exact sw_27_zero Q C.ok ha hb hx C.hB C.hoff h0 hQ
      · exact sw_27_pos Q C.ok ha hb hx C.hB C.hoff h0 hQ
    · rcases Int.lt_trichotomy m.off 0 with h0 | h0 | h0
      · exact sw_28_neg Q C.ok ha hb hx C.hB C.hoff h0 hQ
      · exact sw_28_zero Q C.ok ha hb hx C.hB C.hoff h0 hQ
      · exact sw_28_pos Q C.ok ha hb hx C.hB C.hoff h0 hQ
    · by_cases h0 : m.off < 0
      · exact sw_29_neg Q C.ok ha hb hx C.hB C.hoff h0 hQ
      · exact sw_29_pos Q C.ok ha hb hx C.hB C.hoff (by omega) hQ
    · by_cases h0 : m.off < 0
      · exact sw_30_neg Q C.ok ha hb hx C.hB C.hoff h0 hQ
      · exact sw_30_pos Q C.ok ha hb hx C.hB C.hoff (by omega) hQ
    · by_cases h0 : m.off < 0
      · exact sw_31_neg Q C.ok ha hb hx C.hB C.hoff h0 hQ
      · exact sw_31_pos Q C.ok ha hb hx C.hB C.hoff (by omega) hQ
    · by_cases h0 : m.off < 0
      · exact sw_32_neg Q C.ok ha hb hx C.hB C.hoff h0 hQ
      · exact sw_32_pos Q C.ok ha hb hx C.hB C.hoff (by omega) hQ
    · by_cases h0 : m.off < 0
      · exact sw_33_neg Q C.ok ha hb hx C.hB C.hoff h0 hQ
      · exact sw_33_pos Q C.ok ha hb hx C.hB C.hoff (by omega) hQ
  · have F := fr_of (d := dd) hc h1 hn
    rcases hd with rfl | rfl
    · exact sw_frac34 Q C.ok ha hb hx C.hB F C.hna C.c0 C.c1 C.c2 C.c3 hQ
    · exact sw_frac35 Q C.ok ha hb hx C.hB F C.hna C.c0 C.c1 C.c2 C.c3 hQ

/-- What the loop keeps. -/
def AfInv (B p : Nat) (Z : ByteArray) (off A D te na : Int) (m : Ly.Mo) (t : Nat) (fin : List UInt8) (v0 : Value) (w0 : World) (a : Act) (w : World) : Prop :=
  ∃ (v : Value) (l : ByteArray) (y mo d yd h mi s : Int) (v18 v19 v20 v92 : Value) (xs : List UInt8), Af v l p Z off A D y mo d yd h mi s v18 v19 v20 v92 a ∧ AfCtx B p Z off A D te na m t w ∧ BR B v xs w ∧ Gw v0 w0 v w ∧ (∀ k, v.ownBlock = some k → k ≠ p) ∧
    xs ++ Ly.lay (Ly.txt m) (bts l) = fin ∧ l.size ≤ 600 ∧ xs.length + 1300 * l.size ≤ 880000 ∧
    (y = -1 ∨ y = (m.y : Int) ∧ mo = (m.mo : Int) ∧ d = (m.d : Int)) ∧ (yd = -1 ∨ yd = (m.yd : Int)) ∧ (h = -1 ∨ h = (m.h : Int) ∧ mi = (m.mi : Int) ∧ s = (m.s : Int))
def afMu (a : Act) : Nat := match a.tmps.getD 2 undef with
  | .string s => s.size
  | _ => 0
/-- What there is behind the loop. -/
def AfEnd (B p : Nat) (Z : ByteArray) (off A D : Int) (fin : List UInt8) (v0 : Value) (w0 : World) (a : Act) (w : World) : Prop :=
  ∃ (v : Value) (l : ByteArray) (y mo d yd h mi s : Int) (v18 v19 v20 v92 : Value), Af v l p Z off A D y mo d yd h mi s v18 v19 v20 v92 a ∧ BR B v fin w ∧ Gw v0 w0 v w

theorem afMu_at {v : Value} {l Z : ByteArray} {p : Nat} {off A D y mo d yd h mi s : Int} {v18 v19 v20 v92 : Value} {a : Act} (ha : Af v l p Z off A D y mo d yd h mi s v18 v19 v20 v92 a) : afMu a = l.size := by
  obtain ⟨f, rfl⟩ := ha
  rfl

theorem af_round {B p : Nat} {Z : ByteArray} {off A D te na : Int} {m : Ly.Mo} {t : Nat} {fin : List UInt8} {v0 : Value} {w0 : World} (Q : Exit → Act → World → Prop) (a : Act) (w : World) (I : AfInv B p Z off A D te na m t fin v0 w0 a w)
    (hN : ∀ a' w', AfInv B p Z off A D te na m t fin v0 w0 a' w' → afMu a' < afMu a → Q .normal a' w') (hE : ∀ a' w', AfEnd B p Z off A D fin v0 w0 a' w' → Q (.exit 0) a' w') : Code.wp Tryz.prog afRound Q a w := by
  obtain ⟨v, l, y, mo, d, yd, h, mi, s, v18, v19, v20, v92, xs, ha, C, hb, hg, hv, hfin, hl, hx, k1, k2, k3⟩ := I
  rw [afRound_eq]
  have hvB : ∀ k, v.ownBlock = some k → B ≤ k ∧ k ≠ p := fun k hk => ⟨(hb.lt k hk).1, hv k hk⟩
  by_cases hl0 : l.size = 0
  · refine wp_seq (af_done _ ha hl0 (fun a' u18 u19 u20 u92 ha' => ?_))
    have e : Ly.lay (Ly.txt m) (bts l) = [] := by rw [List.eq_nil_of_length_eq_zero (show (bts l).length = 0 by rw [bts_length]; exact hl0)]; rfl
    rw [e, List.append_nil] at hfin
    exact hE a' w ⟨v, l, y, mo, d, yd, h, mi, s, u18, u19, u20, u92, ha', hfin ▸ hb, hg⟩
  · refine wp_seq (af_more _ ha (by omega) (fun a' u18 u19 u20 u92 ha' => ?_))
    refine wp_block ?_
    rw [afIn_eq]
    refine wp_seq (af_next _ ha' (by omega) C.std0 (Nat.le_trans C.B11 C.hB) (fun i std suf a1 w1 t92 ha1 hw1 hi hp => ?_))
    have g1 : Gw v w v w1 := Gw.of_below hw1
    have C1 := C.gw hvB g1
    have hb1 := hb.below hw1
    have hli : (l.extract 0 i).size ≤ 600 := by rw [ByteArray.size_extract]; omega
    refine wp_seq (af_pre _ ha1 rfl hb1 (by omega) C1.hB (fun v2 a2 w2 u18 u19 u20 u92 ha2 e19 e20 hb2 g2 => ?_))
    subst e19 e20
    have C2 := C1.gw hvB g2
    have g02 := (hg.trans g1).trans g2
    have hv2 := own_gw hv C1.hp g2
    have ex : bts (l.extract 0 i) = (bts l).take i := by rw [bts_extract]; rfl
    rw [ex] at hb2
    have hlen2 : (xs ++ (bts l).take i).length ≤ xs.length + 600 := by rw [List.length_append, List.length_take, bts_length]; omega
    rcases hp with ⟨rfl, hi1, hs0, hW⟩ | ⟨⟨q, k, hq, hql⟩, hsz, hW⟩
    · refine wp_seq (af_zero _ ha2 rfl (fun a3 t18 t19 t20 t92' ha3 => ?_))
      rw [hi1, List.take_of_length_le (by rw [bts_length]; exact Nat.le_refl _)] at hb2
      rw [hW] at hfin
      exact hE a3 w2 ⟨v2, l, y, mo, d, yd, h, mi, s, t18, t19, t20, t92', ha3, hfin ▸ hb2, g02⟩
    · have hcode := ck_code hq (by omega)
      have hne : std ≠ 0 := by
        intro e
        rw [e] at hcode
        rcases hcode with h1 | ⟨c, dd, n, h1, -, -, -, -⟩
        · revert h1
          decide
        · unfold Ly.frac at h1
          split at h1 <;> split at h1 <;> omega
      refine wp_seq (af_code _ ha2 rfl hne (fun a3 t18 t19 t20 t92' ha3 e19 e20 => ?_))
      subst e19 e20
      refine wp_seq (af_suf _ ha3 rfl (fun a4 r18 r19 r20 r92 ha4 e19 => ?_))
      subst e19
      refine wp_seq (af_date (t := t) (na := m.na) _ ha4 rfl C2.hmo C2.hD C2.t2 k1 (fun a5 w5 y' mo' d' s18 s19 s20 s92 ha5 e19 k1' n1 ew => ?_))
      subst e19 ew
      refine wp_seq (af_yday (t := t) (na := m.na) _ ha5 rfl C2.hmo C2.hD C2.t2 (by have := C2.t1; unfold Ly.nsC; omega) k2 (fun a6 w6 yd' s18 s19 s20 s92 ha6 e19 k2' n2 ew => ?_))
      subst e19 ew
      refine wp_seq (af_clock (t := t) (na := m.na) _ ha6 rfl C2.hmo C2.hA C2.t2 k3 (fun a7 w7 h' mi' s' s18 s19 s20 s92 ha7 e19 k3' n3 ew => ?_))
      subst e19 ew
      refine af_switch _ C2 hcode ha7 hb2 (by omega) n1 n2 n3 (fun v8 a8 w8 s18 s19 s20 s92 ha8 hb8 g8 => ?_)
      refine hN a8 w8 ⟨v8, suf, y', mo', d', yd', h', mi', s', s18, s19, s20, s92, _, ha8, C2.gw (fun k hk => ⟨(hb2.lt k hk).1, hv2 k hk⟩) g8, hb8, g02.trans g8, own_gw hv2 C2.hp g8, ?_, by omega, ?_, k1', k2', k3'⟩ ?_
      · rw [← hfin, hW]
        simp only [List.append_assoc]
      · have := Ly.txt_len C.ok std
        rw [List.length_append]
        omega
      · rw [afMu_at ha8, afMu_at ha]
        exact hsz
end Go.Proofs.YtchmhdmapknmfaaGreatDoor

/-
  appendFormat: what it appends is the moment's text by the layout.
-/
namespace Go.Proofs.YtchmhdmapknmfaaGreatDoor
open Go.RowKit

theorem br_string {B : Nat} {v : Value} {xs : List UInt8} {w : World} (h : BR B v xs w) : (convert 101 9 v).run Tryz.prog w = .ok (.string ⟨xs.toArray⟩) w := by
  obtain ⟨g, cap, hv, -⟩ := h.slice
  subst hv
  rw [run_convert_bytes_string w 101 9 5 _ _ _ Tryz.underlying101 Tryz.underlying5 Tryz.underlying9]
  have hc := (h.cells rfl).2
  have hload := run_loadCells_list (P := Tryz.prog) (w := w) ⟨g, 0, none⟩ (bRow xs) hc
  have e : bRow xs = (xs.map fun x => (x.toNat : Int)).map (Value.int .u8) := by simp [bRow]
  rw [bRow_length, e] at hload
  rw [run_bytesToString w ⟨g, 0, none⟩ xs.length cap (xs.map fun x => (x.toNat : Int)) (by simpa using hload), foldl_push]
  simp [ByteArray.empty, ByteArray.emptyWithCapacity]
  rfl

/-- A moment as a Time has it, and the tables. -/
structure TmCtx (B : Nat) (Z : ByteArray) (off te na : Int) (m : Ly.Mo) (t : Nat) (w : World) : Prop where
  ok : m.Ok
  hoff : off = m.off
  hzone : m.zone = bts Z
  hmo : m = Ly.moAt t m.na m.off m.zone
  hte : te + off = (t : Int)
  te0 : 0 ≤ te
  te1 : te < 1000000000000
  t1 : 3155760000 ≤ t
  t2 : t < 100000000000
  hna : na = (m.na : Int)
  B11 : 11 ≤ B
  hB : B ≤ w.heap.size
  std0 : Std0 w
  mon : NameTab 5 Ly.monthNames B w
  day : NameTab 6 Ly.dayNames B w

theorem TmCtx.below {B : Nat} {Z : ByteArray} {off te na : Int} {m : Ly.Mo} {t : Nat} {w w' : World} (h : TmCtx B Z off te na m t w) (hb : Below B w w') : TmCtx B Z off te na m t w' :=
  ⟨h.ok, h.hoff, h.hzone, h.hmo, h.hte, h.te0, h.te1, h.t1, h.t2, h.hna, h.B11, Nat.le_trans h.hB hb.size, h.std0.below11 hb h.B11, h.mon.below hb, h.day.below hb⟩

theorem TmCtx.ctx {B p : Nat} {Z : ByteArray} {off A D te na : Int} {m : Ly.Mo} {t : Nat} {w w1 : World} (h : TmCtx B Z off te na m t w) (hp : p = w.heap.size) (hb : Below (w.heap.size + 1) (w.alloc (.cells #[.int .i64 te, .int .i32 na, .string Z, .int .i64 off] 96)) w1)
    (hA : A = 9223371966606163200 + (te + off)) (hD : D = 106751990353932 + ((t / 86400 + 306 : Nat) : Int)) : AfCtx B p Z off A D te na m t w1 := by
  subst hp
  have hb0 : Below B w w1 := ((Below.refl B w).alloc h.hB _).trans (hb.mono (by have := h.hB; omega))
  have hc : ∀ i, w1.cell? ⟨w.heap.size, i, none⟩ = (w.alloc (.cells #[.int .i64 te, .int .i32 na, .string Z, .int .i64 off] 96)).cell? ⟨w.heap.size, i, none⟩ := fun i => hb.cell (by show w.heap.size < _; omega)
  have h1 := h.below hb0
  have hs := hb.size
  simp only [World.alloc, Array.size_push] at hs
  exact ⟨h.ok, h.hoff, h.hzone, h.hmo, by rw [hA, h.hte], hD, h.t1, h.t2, h.hna, h.B11, h1.hB, by omega, h1.std0, h1.mon, h1.day, by rw [hc]; simp only [World.cell?, World.alloc, Array.getElem?_push_size]; rfl, by rw [hc]; simp only [World.cell?, World.alloc, Array.getElem?_push_size]; rfl, by rw [hc]; simp only [World.cell?, World.alloc, Array.getElem?_push_size]; rfl, by rw [hc]; simp only [World.cell?, World.alloc, Array.getElem?_push_size]; rfl⟩

set_option maxRecDepth 100000 in
set_option maxHeartbeats 4000000 in
theorem appendFormat_any {B : Nat} {v : Value} {xs : List UInt8} (l Z : ByteArray) (te na off : Int) (m : Ly.Mo) (t : Nat) (w : World) (h : BR B v xs w) (C : TmCtx B Z off te na m t w) (hl : l.size ≤ 600) (hx : xs.length ≤ 1000) :
    Calls Tryz.prog 131 #[tmV te na Z off, v, .string l] w (BrPost B v (xs ++ Ly.lay (Ly.txt m) (bts l)) w) := by
  have H := Lib.hid h
  have HC := Lib.hid C
  have Hl := Lib.hid hl
  have Hx := Lib.hid hx
  clear h C hl hx
  unfold tmV
  go_enter Tryz.func131, Tryz.ntmps131
  go_wp2_with (
    go_at_call 154; refine (locabs_any te na off Z (by have := HC.out.hte; omega) HC.out.te1 HC.out.te0 (by rw [HC.out.hoff]; exact HC.out.ok.off1) (by rw [HC.out.hoff]; exact HC.out.ok.off) _).mono ?_; rintro r w1 ⟨A, rfl, hA, hb1⟩
    have HA := Lib.hid hA
    have Hb1 := Lib.hid hb1
    clear hA hb1)
  go_wp2_with (
    go_at_call 155; refine (absDays_any t A (by rw [HA.out, HC.out.hte]) HC.out.t2 _).mono ?_; rintro r w2 ⟨D, rfl, hD, rfl⟩
    have HD := Lib.hid hD
    clear hD)
  go_wp2_with fail
  refine wp_loop (AfInv B w.heap.size Z off A D te na m t (xs ++ Ly.lay (Ly.txt m) (bts l)) v w) (fun a' _ => afMu a') ?_ ?_
  · have hb0 : Below (w.heap.size + 1) (w.alloc (.cells #[.int .i64 te, .int .i32 na, .string Z, .int .i64 off] 96)) w1 := Hb1.out.mono (by simp)
    have hb2 : Below w.heap.size w w1 := ((Below.refl _ w).alloc (Nat.le_refl _) _).trans (hb0.mono (by omega))
    exact ⟨v, l, -1, 0, 0, -1, -1, 0, 0, undef, undef, undef, undef, xs, af_of rfl (by kernel_rfl), HC.out.ctx rfl hb0 HA.out HD.out, H.out.below hb2, Gw.of_below hb2, fun k hk => by have := (H.out.lt k hk).2; omega, rfl, Hl.out, by have := Hl.out; have := Hx.out; omega, .inl rfl, .inl rfl, .inl rfl⟩
  · intro a' w' I
    refine af_round _ a' w' I (fun a2 w2 I2 hm => ⟨I2, hm⟩) (fun a2 w2 hE => ?_)
    obtain ⟨v2, l2, y, mo, d, yd, h, mi, s, v18, v19, v20, v92, ⟨f, rfl⟩, hb2, hg2⟩ := hE
    have Hb2 := Lib.hid hb2
    have Hg2 := Lib.hid hg2
    clear hb2 hg2
    go_wp2
    go_ret
    exact ⟨v2, rfl, Hb2.out, Hg2.out⟩
end Go.Proofs.YtchmhdmapknmfaaGreatDoor
