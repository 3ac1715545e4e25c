/-
  Joined: Me Mf Mg Mi. (Joined by merge.py out of several texts.)
-/
import Derived.Test.YtchmhdmapknmfaaGreatDoorYc
import Derived.Test.YtchmhdmapknmfaaGreatDoorYd
import Derived.Test.YtchmhdmapknmfaaGreatDoorYe

/-
  appendFormat: the switch over a part's code, the round, the loop, the whole (printed by gen_Me.py).
-/
namespace Go.Proofs.YtchmhdmapknmfaaGreatDoor
open Go.RowKit

/-- What stays as it is while a moment is written: what the Time holds, the tables. -/
structure AfCtx (B p : Nat) (Z : ByteArray) (off A D te na : Int) (m : Ly.Mo) (t : Nat) (w : World) : Prop where
  ok : m.Ok
  hoff : off = m.off
  hmo : m = Ly.moAt t m.na m.off m.zone
  hA : A = 9223371966606163200 + (t : Int)
  hD : D = 106751990353932 + ((t / 86400 + 306 : Nat) : Int)
  t1 : 3155760000 ≤ t
  t2 : t < 100000000000
  hna : na = (m.na : Int)
  B11 : 11 ≤ B
  hB : B ≤ w.heap.size
  hp : p < w.heap.size
  std0 : Std0 w
  mon : NameTab 5 Ly.monthNames B w
  day : NameTab 6 Ly.dayNames B w
  c0 : w.cell? ⟨p, 0, none⟩ = some (.int .i64 te)
  c1 : w.cell? ⟨p, 1, none⟩ = some (.int .i32 na)
  c2 : w.cell? ⟨p, 2, none⟩ = some (.string Z)
  c3 : w.cell? ⟨p, 3, none⟩ = some (.int .i64 off)

theorem Std0.below11 {B : Nat} {w w' : World} (h : Std0 w) (hb : Below B w w') (hB : 11 ≤ B) : Std0 w' := by
  unfold Std0 at *
  have e : ∀ i, w'.cell? ⟨4, i, none⟩ = w.cell? ⟨4, i, none⟩ := fun i => hb.cell (by show 4 < _; omega)
  simp only [e]
  exact h

theorem AfCtx.gw {B p : Nat} {Z : ByteArray} {off A D te na : Int} {m : Ly.Mo} {t : Nat} {w w' : World} {v v' : Value} (h : AfCtx B p Z off A D te na m t w) (hv : ∀ k, v.ownBlock = some k → B ≤ k ∧ k ≠ p) (g : Gw v w v' w') : AfCtx B p Z off A D te na m t w' := by
  have hb : Below B w w' := g.below (fun k hk => (hv k hk).1) h.hB
  have hc : ∀ i, w'.cell? ⟨p, i, none⟩ = w.cell? ⟨p, i, none⟩ := fun i => World.cell?_of_block (w := w) (g.1.block p h.hp (fun e => (hv p e.symm).2 rfl))
  exact ⟨h.ok, h.hoff, h.hmo, h.hA, h.hD, h.t1, h.t2, h.hna, h.B11, Nat.le_trans h.hB hb.size, Nat.lt_of_lt_of_le h.hp hb.size, h.std0.below11 hb h.B11, h.mon.below hb, h.day.below hb, by rw [hc]; exact h.c0, by rw [hc]; exact h.c1, by rw [hc]; exact h.c2, by rw [hc]; exact h.c3⟩

theorem own_gw {p : Nat} {v v' : Value} {w w' : World} (hv : ∀ k, v.ownBlock = some k → k ≠ p) (hp : p < w.heap.size) (g : Gw v w v' w') : ∀ k, v'.ownBlock = some k → k ≠ p := by
  intro k hk
  rcases g.2 k hk with h | h
  · exact hv k h
  · omega

theorem ck_code {l : List UInt8} {std : Int} {k : Nat} (h : Ly.ck l = some (std, k)) (hl : l.length ≤ 1000) : Ly.Code? 1000 std := by
  rcases Ly.ck_has l std k h with h1 | ⟨c, d, n, h1, h2, h3, h4, h5⟩
  · exact .inl h1
  · exact .inr ⟨c, d, n, h1, h2, h3, h4, by omega⟩

/-- A layout that does not ask for the zone's name. -/
def No23 (l : List UInt8) : Prop := (Ly.lay (fun s => if s = 23 then [0] else []) l).length ≤ (Ly.lay (fun _ => []) l).length
theorem layN_23 : ∀ (n : Nat) (l : List UInt8), (Ly.layN (fun _ => []) n l).length ≤ (Ly.layN (fun s => if s = 23 then [0] else []) n l).length
  | 0, _ => Nat.le_refl _
  | n + 1, [] => Nat.le_refl _
  | n + 1, c :: r => by
    unfold Ly.layN
    cases hc : Ly.ck (c :: r) with
    | none =>
      have := layN_23 n r
      simp only [List.length_cons]
      omega
    | some p =>
      obtain ⟨s, k⟩ := p
      have h2 := layN_23 n ((c :: r).drop k)
      simp only [List.length_append, List.length_nil]
      omega
theorem lay_23 (l : List UInt8) : (Ly.lay (fun _ => []) l).length ≤ (Ly.lay (fun s => if s = 23 then [0] else []) l).length := layN_23 _ l
theorem no23_step {l p suf : List UInt8} {std : Int} (hW : ∀ W : Int → List UInt8, Ly.lay W l = p ++ (W std ++ Ly.lay W suf)) (h : No23 l) : std ≠ 23 ∧ No23 suf := by
  unfold No23 at *
  have h3 := lay_23 suf
  rw [hW, hW] at h
  simp only [List.length_append, List.length_nil] at h
  refine ⟨fun e => ?_, by omega⟩
  rw [if_pos e, List.length_singleton] at h
  omega

theorem fr_of {c d : UInt8} {n : Nat} (hc : c = 46 ∨ c = 44) (h1 : 1 ≤ n) (hn : n ≤ 1000) : Fr (Ly.frac c d n) (if d = 57 then 35 else 34) (if c = 44 then 268435456 else 0) n c := by
  refine ⟨?_, ?_, ?_, h1, hn⟩
  · unfold Ly.frac
    rw [Nat.mod_eq_of_lt (by omega)]
  · split
    · exact .inr rfl
    · exact .inl rfl
  · rcases hc with rfl | rfl
    · exact .inl ⟨rfl, rfl⟩
    · exact .inr ⟨rfl, rfl⟩

set_option maxRecDepth 100000 in
set_option maxHeartbeats 4000000 in
theorem af_switch {B p : Nat} {v : Value} {l Z : ByteArray} {off A D y mo d yd h mi s : Int} {v18 v20 v92 : Value} {xs : List UInt8} {a : Act} {w : World} {m : Ly.Mo} {te na std : Int} {t : Nat} (Q : Exit → Act → World → Prop) (C : AfCtx B p Z off A D te na m t w) (hs : Ly.Code? 1000 std) (hz23 : std = 23 → m.zone = bts Z) (ha : Af v l p Z off A D y mo d yd h mi s v18 (.int .i64 std) v20 v92 a) (hb : BR B v xs w) (hx : xs.length ≤ 890000)
    (n1 : bits BinOp.and IntKind.i64 std 256 ≠ 0 → y = (m.y : Int) ∧ mo = (m.mo : Int) ∧ d = (m.d : Int)) (n2 : bits BinOp.and IntKind.i64 std 512 ≠ 0 → yd = (m.yd : Int)) (n3 : bits BinOp.and IntKind.i64 std 1024 ≠ 0 → h = (m.h : Int) ∧ mi = (m.mi : Int) ∧ s = (m.s : Int))
    (hQ : ∀ v' a' w' u18 u19 u20 u92, Af v' l p Z off A D y mo d yd h mi s u18 u19 u20 u92 a' → BR B v' (xs ++ Ly.txt m std) w' → Gw v w v' w' → Q .normal a' w') : Code.wp Tryz.prog afSw Q a w := by
  have hw : m.wd = (t / 86400 + 306 + 3) % 7 := by rw [C.hmo]; rfl
  rcases hs with hs | ⟨c, dd, n, rfl, hc, hd, h1, hn⟩
  · simp only [Ly.stds, List.mem_cons, List.not_mem_nil, or_false] at hs
    rcases hs with rfl | rfl | rfl | rfl | rfl | rfl | rfl | rfl | rfl | rfl | rfl | rfl | rfl | rfl | rfl | rfl | rfl | rfl | rfl | rfl | rfl | rfl | rfl | rfl | rfl | rfl | rfl | rfl | rfl | rfl | rfl | rfl | rfl
    · exact sw_257 Q C.ok ha hb hx C.hB (n1 (by decide)).1 (n1 (by decide)).2.1 (n1 (by decide)).2.2 C.mon hQ
    · exact sw_258 Q C.ok ha hb hx C.hB (n1 (by decide)).1 (n1 (by decide)).2.1 (n1 (by decide)).2.2 C.mon hQ
    · exact sw_259 Q C.ok ha hb hx C.hB (n1 (by decide)).1 (n1 (by decide)).2.1 (n1 (by decide)).2.2 hQ
    · exact sw_260 Q C.ok ha hb hx C.hB (n1 (by decide)).1 (n1 (by decide)).2.1 (n1 (by decide)).2.2 hQ
    · exact sw_261 Q C.ok ha hb hx C.hB C.hD (by have := C.t2; omega) hw C.day hQ
    · exact sw_262 Q C.ok ha hb hx C.hB C.hD (by have := C.t2; omega) hw C.day hQ
    · exact sw_263 Q C.ok ha hb hx C.hB (n1 (by decide)).1 (n1 (by decide)).2.1 (n1 (by decide)).2.2 hQ
    · exact sw_264 Q C.ok ha hb hx C.hB (n1 (by decide)).1 (n1 (by decide)).2.1 (n1 (by decide)).2.2 hQ
    · exact sw_265 Q C.ok ha hb hx C.hB (n1 (by decide)).1 (n1 (by decide)).2.1 (n1 (by decide)).2.2 hQ
    · exact sw_522 Q C.ok ha hb hx C.hB (n2 (by decide)) hQ
    · exact sw_523 Q C.ok ha hb hx C.hB (n2 (by decide)) hQ
    · exact sw_1036 Q C.ok ha hb hx C.hB (n3 (by decide)).1 (n3 (by decide)).2.1 (n3 (by decide)).2.2 hQ
    · exact sw_1037 Q C.ok ha hb hx C.hB (n3 (by decide)).1 (n3 (by decide)).2.1 (n3 (by decide)).2.2 hQ
    · exact sw_1038 Q C.ok ha hb hx C.hB (n3 (by decide)).1 (n3 (by decide)).2.1 (n3 (by decide)).2.2 hQ
    · exact sw_1039 Q C.ok ha hb hx C.hB (n3 (by decide)).1 (n3 (by decide)).2.1 (n3 (by decide)).2.2 hQ
    · exact sw_1040 Q C.ok ha hb hx C.hB (n3 (by decide)).1 (n3 (by decide)).2.1 (n3 (by decide)).2.2 hQ
    · exact sw_1041 Q C.ok ha hb hx C.hB (n3 (by decide)).1 (n3 (by decide)).2.1 (n3 (by decide)).2.2 hQ
    · exact sw_1042 Q C.ok ha hb hx C.hB (n3 (by decide)).1 (n3 (by decide)).2.1 (n3 (by decide)).2.2 hQ
    · exact sw_275 Q C.ok ha hb hx C.hB (n1 (by decide)).1 (n1 (by decide)).2.1 (n1 (by decide)).2.2 hQ
    · exact sw_276 Q C.ok ha hb hx C.hB (n1 (by decide)).1 (n1 (by decide)).2.1 (n1 (by decide)).2.2 hQ
    · exact sw_1045 Q C.ok ha hb hx C.hB (n3 (by decide)).1 (n3 (by decide)).2.1 (n3 (by decide)).2.2 hQ
    · exact sw_1046 Q C.ok ha hb hx C.hB (n3 (by decide)).1 (n3 (by decide)).2.1 (n3 (by decide)).2.2 hQ
    · by_cases hz : Z.size = 0
      · by_cases h0 : m.off < 0
        · exact sw_23_neg Q C.ok ha hb hx C.hB C.hoff (hz23 rfl) hz h0 hQ
        · exact sw_23_pos Q C.ok ha hb hx C.hB C.hoff (hz23 rfl) hz (by omega) hQ
      · exact sw_23_name Q C.ok ha hb hx C.hB (hz23 rfl) (by omega) hQ
    · rcases Int.lt_trichotomy m.off 0 with h0 | h0 | h0
      · exact sw_24_neg Q C.ok ha hb hx C.hB C.hoff h0 hQ
      · exact sw_24_zero Q C.ok ha hb hx C.hB C.hoff h0 hQ
      · exact sw_24_pos Q C.ok ha hb hx C.hB C.hoff h0 hQ
    · rcases Int.lt_trichotomy m.off 0 with h0 | h0 | h0
      · exact sw_25_neg Q C.ok ha hb hx C.hB C.hoff h0 hQ
      · exact sw_25_zero Q C.ok ha hb hx C.hB C.hoff h0 hQ
      · exact sw_25_pos Q C.ok ha hb hx C.hB C.hoff h0 hQ
    · rcases Int.lt_trichotomy m.off 0 with h0 | h0 | h0
      · exact sw_26_neg Q C.ok ha hb hx C.hB C.hoff h0 hQ
      · exact sw_26_zero Q C.ok ha hb hx C.hB C.hoff h0 hQ
      · exact sw_26_pos Q C.ok ha hb hx C.hB C.hoff h0 hQ
    · rcases Int.lt_trichotomy m.off 0 with h0 | h0 | h0
      · exact sw_27_neg Q C.ok ha hb hx C.hB C.hoff h0 hQ
      · exact sw_27_zero Q C.ok ha hb hx C.hB C.hoff h0 hQ
      · exact sw_27_pos Q C.ok ha hb hx C.hB C.hoff h0 hQ
    · rcases Int.lt_trichotomy m.off 0 with h0 | h0 | h0
      · exact sw_28_neg Q C.ok ha hb hx C.hB C.hoff h0 hQ
      · exact sw_28_zero Q C.ok ha hb hx C.hB C.hoff h0 hQ
      · exact sw_28_pos Q C.ok ha hb hx C.hB C.hoff h0 hQ
    · by_cases h0 : m.off < 0
      · exact sw_29_neg Q C.ok ha hb hx C.hB C.hoff h0 hQ
      · exact sw_29_pos Q C.ok ha hb hx C.hB C.hoff (by omega) hQ
    · by_cases h0 : m.off < 0
      · exact sw_30_neg Q C.ok ha hb hx C.hB C.hoff h0 hQ
      · exact sw_30_pos Q C.ok ha hb hx C.hB C.hoff (by omega) hQ
    · by_cases h0 : m.off < 0
      · exact sw_31_neg Q C.ok ha hb hx C.hB C.hoff h0 hQ
      · exact sw_31_pos Q C.ok ha hb hx C.hB C.hoff (by omega) hQ
    · by_cases h0 : m.off < 0
      · exact sw_32_neg Q C.ok ha hb hx C.hB C.hoff h0 hQ
      · exact sw_32_pos Q C.ok ha hb hx C.hB C.hoff (by omega) hQ
    · by_cases h0 : m.off < 0
      · exact sw_33_neg Q C.ok ha hb hx C.hB C.hoff h0 hQ
      · exact sw_33_pos Q C.ok ha hb hx C.hB C.hoff (by omega) hQ
  · have F := fr_of (d := dd) hc h1 hn
    rcases hd with rfl | rfl
    · exact sw_frac34 Q C.ok ha hb hx C.hB F C.hna C.c0 C.c1 C.c2 C.c3 hQ
    · exact sw_frac35 Q C.ok ha hb hx C.hB F C.hna C.c0 C.c1 C.c2 C.c3 hQ

/-- What the loop keeps. -/
def AfInv (B p : Nat) (Z : ByteArray) (off A D te na : Int) (m : Ly.Mo) (t : Nat) (fin : List UInt8) (v0 : Value) (w0 : World) (a : Act) (w : World) : Prop :=
  ∃ (v : Value) (l : ByteArray) (y mo d yd h mi s : Int) (v18 v19 v20 v92 : Value) (xs : List UInt8), Af v l p Z off A D y mo d yd h mi s v18 v19 v20 v92 a ∧ AfCtx B p Z off A D te na m t w ∧ BR B v xs w ∧ Gw v0 w0 v w ∧ (∀ k, v.ownBlock = some k → k ≠ p) ∧ (m.zone = bts Z ∨ No23 (bts l)) ∧
    xs ++ Ly.lay (Ly.txt m) (bts l) = fin ∧ l.size ≤ 600 ∧ xs.length + 1300 * l.size ≤ 880000 ∧
    (y = -1 ∨ y = (m.y : Int) ∧ mo = (m.mo : Int) ∧ d = (m.d : Int)) ∧ (yd = -1 ∨ yd = (m.yd : Int)) ∧ (h = -1 ∨ h = (m.h : Int) ∧ mi = (m.mi : Int) ∧ s = (m.s : Int))
def afMu (a : Act) : Nat := match a.tmps.getD 2 undef with
  | .string s => s.size
  | _ => 0
/-- What there is behind the loop. -/
def AfEnd (B p : Nat) (Z : ByteArray) (off A D : Int) (fin : List UInt8) (v0 : Value) (w0 : World) (a : Act) (w : World) : Prop :=
  ∃ (v : Value) (l : ByteArray) (y mo d yd h mi s : Int) (v18 v19 v20 v92 : Value), Af v l p Z off A D y mo d yd h mi s v18 v19 v20 v92 a ∧ BR B v fin w ∧ Gw v0 w0 v w

theorem afMu_at {v : Value} {l Z : ByteArray} {p : Nat} {off A D y mo d yd h mi s : Int} {v18 v19 v20 v92 : Value} {a : Act} (ha : Af v l p Z off A D y mo d yd h mi s v18 v19 v20 v92 a) : afMu a = l.size := by
  obtain ⟨f, rfl⟩ := ha
  rfl

theorem af_round {B p : Nat} {Z : ByteArray} {off A D te na : Int} {m : Ly.Mo} {t : Nat} {fin : List UInt8} {v0 : Value} {w0 : World} (Q : Exit → Act → World → Prop) (a : Act) (w : World) (I : AfInv B p Z off A D te na m t fin v0 w0 a w)
    (hN : ∀ a' w', AfInv B p Z off A D te na m t fin v0 w0 a' w' → afMu a' < afMu a → Q .normal a' w') (hE : ∀ a' w', AfEnd B p Z off A D fin v0 w0 a' w' → Q (.exit 0) a' w') : Code.wp Tryz.prog afRound Q a w := by
  obtain ⟨v, l, y, mo, d, yd, h, mi, s, v18, v19, v20, v92, xs, ha, C, hb, hg, hv, hno, hfin, hl, hx, k1, k2, k3⟩ := I
  rw [afRound_eq]
  have hvB : ∀ k, v.ownBlock = some k → B ≤ k ∧ k ≠ p := fun k hk => ⟨(hb.lt k hk).1, hv k hk⟩
  by_cases hl0 : l.size = 0
  · refine wp_seq (af_done _ ha hl0 (fun a' u18 u19 u20 u92 ha' => ?_))
    have e : Ly.lay (Ly.txt m) (bts l) = [] := by rw [List.eq_nil_of_length_eq_zero (show (bts l).length = 0 by rw [bts_length]; exact hl0)]; rfl
    rw [e, List.append_nil] at hfin
    exact hE a' w ⟨v, l, y, mo, d, yd, h, mi, s, u18, u19, u20, u92, ha', hfin ▸ hb, hg⟩
  · refine wp_seq (af_more _ ha (by omega) (fun a' u18 u19 u20 u92 ha' => ?_))
    refine wp_block ?_
    rw [afIn_eq]
    refine wp_seq (af_next _ ha' (by omega) C.std0 (Nat.le_trans C.B11 C.hB) (fun i std suf a1 w1 t92 ha1 hw1 hi hp => ?_))
    have g1 : Gw v w v w1 := Gw.of_below hw1
    have C1 := C.gw hvB g1
    have hb1 := hb.below hw1
    have hli : (l.extract 0 i).size ≤ 600 := by rw [ByteArray.size_extract]; omega
    refine wp_seq (af_pre _ ha1 rfl hb1 (by omega) C1.hB (fun v2 a2 w2 u18 u19 u20 u92 ha2 e19 e20 hb2 g2 => ?_))
    subst e19 e20
    have C2 := C1.gw hvB g2
    have g02 := (hg.trans g1).trans g2
    have hv2 := own_gw hv C1.hp g2
    have ex : bts (l.extract 0 i) = (bts l).take i := by rw [bts_extract]; rfl
    rw [ex] at hb2
    have hlen2 : (xs ++ (bts l).take i).length ≤ xs.length + 600 := by rw [List.length_append, List.length_take, bts_length]; omega
    rcases hp with ⟨rfl, hi1, hs0, hW⟩ | ⟨⟨q, k, hq, hql⟩, hsz, hW⟩
    · refine wp_seq (af_zero _ ha2 rfl (fun a3 t18 t19 t20 t92' ha3 => ?_))
      rw [hi1, List.take_of_length_le (by rw [bts_length]; exact Nat.le_refl _)] at hb2
      rw [hW] at hfin
      exact hE a3 w2 ⟨v2, l, y, mo, d, yd, h, mi, s, t18, t19, t20, t92', ha3, hfin ▸ hb2, g02⟩
    · have hcode := ck_code hq (by omega)
      have hne : std ≠ 0 := by
        intro e
        rw [e] at hcode
        rcases hcode with h1 | ⟨c, dd, n, h1, -, -, -, -⟩
        · revert h1
          decide
        · unfold Ly.frac at h1
          split at h1 <;> split at h1 <;> omega
      refine wp_seq (af_code _ ha2 rfl hne (fun a3 t18 t19 t20 t92' ha3 e19 e20 => ?_))
      subst e19 e20
      refine wp_seq (af_suf _ ha3 rfl (fun a4 r18 r19 r20 r92 ha4 e19 => ?_))
      subst e19
      refine wp_seq (af_date (t := t) (na := m.na) _ ha4 rfl C2.hmo C2.hD C2.t2 k1 (fun a5 w5 y' mo' d' s18 s19 s20 s92 ha5 e19 k1' n1 ew => ?_))
      subst e19 ew
      refine wp_seq (af_yday (t := t) (na := m.na) _ ha5 rfl C2.hmo C2.hD C2.t2 (by have := C2.t1; unfold Ly.nsC; omega) k2 (fun a6 w6 yd' s18 s19 s20 s92 ha6 e19 k2' n2 ew => ?_))
      subst e19 ew
      refine wp_seq (af_clock (t := t) (na := m.na) _ ha6 rfl C2.hmo C2.hA C2.t2 k3 (fun a7 w7 h' mi' s' s18 s19 s20 s92 ha7 e19 k3' n3 ew => ?_))
      subst e19 ew
      have hno2 := hno.imp id (no23_step hW)
      refine af_switch _ C2 hcode (fun e => hno2.elim id (fun h => absurd e h.1)) ha7 hb2 (by omega) n1 n2 n3 (fun v8 a8 w8 s18 s19 s20 s92 ha8 hb8 g8 => ?_)
      refine hN a8 w8 ⟨v8, suf, y', mo', d', yd', h', mi', s', s18, s19, s20, s92, _, ha8, C2.gw (fun k hk => ⟨(hb2.lt k hk).1, hv2 k hk⟩) g8, hb8, g02.trans g8, own_gw hv2 C2.hp g8, hno2.imp id And.right, ?_, by omega, ?_, k1', k2', k3'⟩ ?_
      · rw [← hfin, hW]
        simp only [List.append_assoc]
      · have := Ly.txt_len C.ok std
        rw [List.length_append]
        omega
      · rw [afMu_at ha8, afMu_at ha]
        exact hsz
end Go.Proofs.YtchmhdmapknmfaaGreatDoor

/-
  appendFormat: what it appends is the moment's text by the layout.
-/
namespace Go.Proofs.YtchmhdmapknmfaaGreatDoor
open Go.RowKit

theorem br_string {B : Nat} {v : Value} {xs : List UInt8} {w : World} (h : BR B v xs w) : (convert 101 9 v).run Tryz.prog w = .ok (.string ⟨xs.toArray⟩) w := by
  obtain ⟨g, cap, hv, -⟩ := h.slice
  subst hv
  rw [run_convert_bytes_string w 101 9 5 _ _ _ Tryz.underlying101 Tryz.underlying5 Tryz.underlying9]
  have hc := (h.cells rfl).2
  have hload := run_loadCells_list (P := Tryz.prog) (w := w) ⟨g, 0, none⟩ (bRow xs) hc
  have e : bRow xs = (xs.map fun x => (x.toNat : Int)).map (Value.int .u8) := by simp [bRow]
  rw [bRow_length, e] at hload
  rw [run_bytesToString w ⟨g, 0, none⟩ xs.length cap (xs.map fun x => (x.toNat : Int)) (by simpa using hload), foldl_push]
  simp [ByteArray.empty, ByteArray.emptyWithCapacity]
  rfl

/-- A moment as a Time has it, and the tables. -/
structure TmCtx (B : Nat) (Z : ByteArray) (off te na : Int) (m : Ly.Mo) (t : Nat) (w : World) : Prop where
  ok : m.Ok
  hoff : off = m.off
  hmo : m = Ly.moAt t m.na m.off m.zone
  hte : te + off = (t : Int)
  te0 : 0 ≤ te
  te1 : te < 1000000000000
  t1 : 3155760000 ≤ t
  t2 : t < 100000000000
  hna : na = (m.na : Int)
  B11 : 11 ≤ B
  hB : B ≤ w.heap.size
  std0 : Std0 w
  mon : NameTab 5 Ly.monthNames B w
  day : NameTab 6 Ly.dayNames B w

theorem TmCtx.below {B : Nat} {Z : ByteArray} {off te na : Int} {m : Ly.Mo} {t : Nat} {w w' : World} (h : TmCtx B Z off te na m t w) (hb : Below B w w') : TmCtx B Z off te na m t w' :=
  ⟨h.ok, h.hoff, h.hmo, h.hte, h.te0, h.te1, h.t1, h.t2, h.hna, h.B11, Nat.le_trans h.hB hb.size, h.std0.below11 hb h.B11, h.mon.below hb, h.day.below hb⟩

theorem TmCtx.ctx {B p : Nat} {Z : ByteArray} {off A D te na : Int} {m : Ly.Mo} {t : Nat} {w w1 : World} (h : TmCtx B Z off te na m t w) (hp : p = w.heap.size) (hb : Below (w.heap.size + 1) (w.alloc (.cells #[.int .i64 te, .int .i32 na, .string Z, .int .i64 off] 96)) w1)
    (hA : A = 9223371966606163200 + (te + off)) (hD : D = 106751990353932 + ((t / 86400 + 306 : Nat) : Int)) : AfCtx B p Z off A D te na m t w1 := by
  subst hp
  have hb0 : Below B w w1 := ((Below.refl B w).alloc h.hB _).trans (hb.mono (by have := h.hB; omega))
  have hc : ∀ i, w1.cell? ⟨w.heap.size, i, none⟩ = (w.alloc (.cells #[.int .i64 te, .int .i32 na, .string Z, .int .i64 off] 96)).cell? ⟨w.heap.size, i, none⟩ := fun i => hb.cell (by show w.heap.size < _; omega)
  have h1 := h.below hb0
  have hs := hb.size
  simp only [World.alloc, Array.size_push] at hs
  exact ⟨h.ok, h.hoff, h.hmo, by rw [hA, h.hte], hD, h.t1, h.t2, h.hna, h.B11, h1.hB, by omega, h1.std0, h1.mon, h1.day, by rw [hc]; simp only [World.cell?, World.alloc, Array.getElem?_push_size]; rfl, by rw [hc]; simp only [World.cell?, World.alloc, Array.getElem?_push_size]; rfl, by rw [hc]; simp only [World.cell?, World.alloc, Array.getElem?_push_size]; rfl, by rw [hc]; simp only [World.cell?, World.alloc, Array.getElem?_push_size]; rfl⟩

set_option maxRecDepth 100000 in
set_option maxHeartbeats 4000000 in
theorem appendFormat_any {B : Nat} {v : Value} {xs : List UInt8} (l Z : ByteArray) (te na off : Int) (m : Ly.Mo) (t : Nat) (w : World) (h : BR B v xs w) (C : TmCtx B Z off te na m t w) (hno : m.zone = bts Z ∨ No23 (bts l)) (hl : l.size ≤ 600) (hx : xs.length ≤ 1000) :
    Calls Tryz.prog 131 #[tmV te na Z off, v, .string l] w (BrPost B v (xs ++ Ly.lay (Ly.txt m) (bts l)) w) := by
  have H := Lib.hid h
  have HC := Lib.hid C
  have Hl := Lib.hid hl
  have Hx := Lib.hid hx
  have Hno := Lib.hid hno
  clear h C hl hx hno
  unfold tmV
  go_enter Tryz.func131, Tryz.ntmps131
  go_wp2_with (
    go_at_call 154; refine (locabs_any te na off Z (by have := HC.out.hte; omega) HC.out.te1 HC.out.te0 (by rw [HC.out.hoff]; exact HC.out.ok.off1) (by rw [HC.out.hoff]; exact HC.out.ok.off) _).mono ?_; rintro r w1 ⟨A, rfl, hA, hb1⟩
    have HA := Lib.hid hA
    have Hb1 := Lib.hid hb1
    clear hA hb1)
  go_wp2_with (
    go_at_call 155; refine (absDays_any t A (by rw [HA.out, HC.out.hte]) HC.out.t2 _).mono ?_; rintro r w2 ⟨D, rfl, hD, rfl⟩
    have HD := Lib.hid hD
    clear hD)
  go_wp2_with fail
  refine wp_loop (AfInv B w.heap.size Z off A D te na m t (xs ++ Ly.lay (Ly.txt m) (bts l)) v w) (fun a' _ => afMu a') ?_ ?_
  · have hb0 : Below (w.heap.size + 1) (w.alloc (.cells #[.int .i64 te, .int .i32 na, .string Z, .int .i64 off] 96)) w1 := Hb1.out.mono (by simp)
    have hb2 : Below w.heap.size w w1 := ((Below.refl _ w).alloc (Nat.le_refl _) _).trans (hb0.mono (by omega))
    exact ⟨v, l, -1, 0, 0, -1, -1, 0, 0, undef, undef, undef, undef, xs, af_of rfl (by kernel_rfl), HC.out.ctx rfl hb0 HA.out HD.out, H.out.below hb2, Gw.of_below hb2, fun k hk => by have := (H.out.lt k hk).2; omega, Hno.out, rfl, Hl.out, by have := Hl.out; have := Hx.out; omega, .inl rfl, .inl rfl, .inl rfl⟩
  · intro a' w' I
    refine af_round _ a' w' I (fun a2 w2 I2 hm => ⟨I2, hm⟩) (fun a2 w2 hE => ?_)
    obtain ⟨v2, l2, y, mo, d, yd, h, mi, s, v18, v19, v20, v92, ⟨f, rfl⟩, hb2, hg2⟩ := hE
    have Hb2 := Lib.hid hb2
    have Hg2 := Lib.hid hg2
    clear hb2 hg2
    go_wp2
    go_ret
    exact ⟨v2, rfl, Hb2.out, Hg2.out⟩
end Go.Proofs.YtchmhdmapknmfaaGreatDoor

/-
  appendFormatRFC3339 (printed by gen_Mg.py).
-/
namespace Go.Proofs.YtchmhdmapknmfaaGreatDoor
open Go.RowKit

def rfc : List UInt8 := [50, 48, 48, 54, 45, 48, 49, 45, 48, 50, 84, 49, 53, 58, 48, 52, 58, 48, 53, 90, 48, 55, 58, 48, 48]
def rfcn : List UInt8 := [50, 48, 48, 54, 45, 48, 49, 45, 48, 50, 84, 49, 53, 58, 48, 52, 58, 48, 53, 46, 57, 57, 57, 57, 57, 57, 57, 57, 57, 90, 48, 55, 58, 48, 48]
theorem rfc_txt (m : Ly.Mo) : Ly.lay (Ly.txt m) rfc = Ly.pad 4 m.y ++ (45 :: (Ly.pad 2 m.mo ++ (45 :: (Ly.pad 2 m.d ++ (84 :: (Ly.pad 2 m.h ++ (58 :: (Ly.pad 2 m.mi ++ (58 :: (Ly.pad 2 m.s ++ ((if m.off = 0 then [90] else Ly.zn m.off true true false) ++ []))))))))))) := rfl
theorem rfcn_txt (m : Ly.Mo) : Ly.lay (Ly.txt m) rfcn = Ly.pad 4 m.y ++ (45 :: (Ly.pad 2 m.mo ++ (45 :: (Ly.pad 2 m.d ++ (84 :: (Ly.pad 2 m.h ++ (58 :: (Ly.pad 2 m.mi ++ (58 :: (Ly.pad 2 m.s ++ (Ly.fracT 46 9 true m.na ++ ((if m.off = 0 then [90] else Ly.zn m.off true true false) ++ [])))))))))))) := rfl
theorem fr_nano : Fr 589859 35 0 9 46 := ⟨rfl, .inr rfl, .inl ⟨rfl, rfl⟩, by omega, by omega⟩

set_option maxRecDepth 100000 in
set_option maxHeartbeats 8000000 in
theorem rfc0_zero {B : Nat} {v : Value} {xs : List UInt8} (Z : ByteArray) (te na off : Int) (m : Ly.Mo) (t : Nat) (w0 : World) (h : BR B v xs w0) (C : TmCtx B Z off te na m t w0) (hx : xs.length ≤ 1000) (hc : m.off = 0) :
    Calls Tryz.prog 130 #[tmV te na Z off, v, .bool false] w0 (BrPost B v (xs ++ Ly.lay (Ly.txt m) rfc) w0) := by
  have H := Lib.hid h
  have HC := Lib.hid C
  have Hm := Lib.hid C.ok
  have hx' := Lib.hid hx
  have ho := C.hoff
  have f0 : (off == 0) = true := by rw [beq_iff_eq]; omega
  have Hc := Lib.hid hc
  clear h C hx ho hc
  unfold tmV
  go_enter Tryz.func130, Tryz.ntmps130
  go_wp2_with fail
  go_at_call 154
  refine (locabs_any te na off Z (by have := HC.out.hte; omega) HC.out.te1 HC.out.te0 (by rw [HC.out.hoff]; exact HC.out.ok.off1) (by rw [HC.out.hoff]; exact HC.out.ok.off) _).mono ?_
  rintro r w ⟨A, rfl, hA, hb1⟩
  have HA := Lib.hid hA
  clear hA
  have hb0 : Below (w0.heap.size + 1) (w0.alloc (.cells #[.int .i64 te, .int .i32 na, .string Z, .int .i64 off] 96)) w := hb1.mono (by simp)
  have hb2 : Below w0.heap.size w0 w := ((Below.refl _ w0).alloc (Nat.le_refl _) _).trans (hb0.mono (by omega))
  have Hb := Lib.hid (H.out.below hb2)
  have Hb0 := Lib.hid hb0
  have Hgw := Lib.hid (Gw.of_below (v := v) hb2)
  have hB : B ≤ w.heap.size := by have := hb2.size; have := HC.out.hB; omega
  clear hb1 hb0 hb2
  go_wp2_with fail
  go_at_call 155
  refine (absDays_any t A (by rw [HA.out, HC.out.hte]) HC.out.t2 _).mono ?_
  rintro r w' ⟨D, rfl, hD, rfl⟩
  have HD := Lib.hid hD
  clear hD
  go_wp2_with fail
  go_at_call 156
  refine (date_any (t / 86400 + 306) D HD.out (by have := HC.out.t2; omega) _).mono ?_
  rintro r w' ⟨y, mo, d, rfl, h1, h2, h3, rfl⟩
  have HR := Lib.hid (show y = (m.y : Int) ∧ mo = (m.mo : Int) ∧ d = (m.d : Int) by (rw [HC.out.hmo]; exact ⟨h1, h2, h3⟩))
  clear h1 h2 h3
  have n1 := Lib.hid (show m.y < 10000 by have := Hm.out.y; have := Hm.out.mo; have := Hm.out.mo1; have := Hm.out.d; have := Hm.out.d1; have := Hm.out.yd; have := Hm.out.yd1; have := Hm.out.wd; have := Hm.out.h; have := Hm.out.mi; have := Hm.out.s; omega)
  have n2 := Lib.hid (show m.mo < 100 by have := Hm.out.y; have := Hm.out.mo; have := Hm.out.mo1; have := Hm.out.d; have := Hm.out.d1; have := Hm.out.yd; have := Hm.out.yd1; have := Hm.out.wd; have := Hm.out.h; have := Hm.out.mi; have := Hm.out.s; omega)
  have n3 := Lib.hid (show m.d < 100 by have := Hm.out.y; have := Hm.out.mo; have := Hm.out.mo1; have := Hm.out.d; have := Hm.out.d1; have := Hm.out.yd; have := Hm.out.yd1; have := Hm.out.wd; have := Hm.out.h; have := Hm.out.mi; have := Hm.out.s; omega)
  have n4 := Lib.hid (show m.h < 100 by have := Hm.out.y; have := Hm.out.mo; have := Hm.out.mo1; have := Hm.out.d; have := Hm.out.d1; have := Hm.out.yd; have := Hm.out.yd1; have := Hm.out.wd; have := Hm.out.h; have := Hm.out.mi; have := Hm.out.s; omega)
  have n5 := Lib.hid (show m.mi < 100 by have := Hm.out.y; have := Hm.out.mo; have := Hm.out.mo1; have := Hm.out.d; have := Hm.out.d1; have := Hm.out.yd; have := Hm.out.yd1; have := Hm.out.wd; have := Hm.out.h; have := Hm.out.mi; have := Hm.out.s; omega)
  have n6 := Lib.hid (show m.s < 100 by have := Hm.out.y; have := Hm.out.mo; have := Hm.out.mo1; have := Hm.out.d; have := Hm.out.d1; have := Hm.out.yd; have := Hm.out.yd1; have := Hm.out.wd; have := Hm.out.h; have := Hm.out.mi; have := Hm.out.s; omega)
  have Hg0 := Lib.hid (Gw.refl v w)
  go_wp2_with fail
  go_at_call 157
  refine (aint 4 (m.y) (y) HR.out.1 _ Hb.out (.inr (.inl ⟨rfl, n1.out⟩)) (by have := hx'.out; omega) hB).mono ?_
  rintro r w1 ⟨v1, rfl, hb1, hg1⟩
  have Hb1 := Lib.hid hb1
  have Hg1 := Lib.hid (Hg0.out.trans (hg1))
  have hB1 : B ≤ w1.heap.size := by have h1 := Hg1.out.1.size; omega
  clear hb1 hg1
  have HLy := Lib.hid (Ly.pad_length (k := 4) (a := m.y) (by decide) n1.out)
  go_wp2_with (at_builtin; refine wpList_append_br rfl _ _ rfl rfl (Hb1.out.alloc _) [45] ⟨w1.heap.size, 0, none⟩ 1 1 rfl rfl cells_one (by have := hx'.out; have := HLy.out; simp only [List.length_append, List.length_cons, List.length_nil]; omega) (by simp only [World.alloc, Array.size_push]; omega) ?_)
  intro v2 w2 hb2 hg2
  have Hb2 := Lib.hid (show BR B v2 ((xs ++ Ly.pad 4 (m.y)) ++ [45]) w2 by first | exact hb2 | (rw [List.append_assoc]; exact hb2) | simpa using hb2)
  have Hg2 := Lib.hid (Hg1.out.trans (((Gw.refl _ _).alloc _).trans hg2))
  have hB2 : B ≤ w2.heap.size := by have h1 := Hg2.out.1.size; omega
  clear hb2 hg2
  go_wp2_with fail
  go_at_call 157
  refine (aint 2 (m.mo) (mo) HR.out.2.1 _ Hb2.out (.inl ⟨rfl, n2.out⟩) (by have := hx'.out; have := HLy.out; simp only [List.length_append, List.length_cons, List.length_nil]; omega) hB2).mono ?_
  rintro r w3 ⟨v3, rfl, hb3, hg3⟩
  have Hb3 := Lib.hid (show BR B v3 (((xs ++ Ly.pad 4 (m.y)) ++ [45]) ++ Ly.pad 2 (m.mo)) w3 by first | exact hb3 | (rw [List.append_assoc]; exact hb3) | simpa using hb3)
  have Hg3 := Lib.hid (Hg2.out.trans (hg3))
  have hB3 : B ≤ w3.heap.size := by have h1 := Hg3.out.1.size; omega
  clear hb3 hg3
  have HL3 := Lib.hid (Ly.pad_length (k := 2) (a := m.mo) (by decide) n2.out)
  go_wp2_with (at_builtin; refine wpList_append_br rfl _ _ rfl rfl (Hb3.out.alloc _) [45] ⟨w3.heap.size, 0, none⟩ 1 1 rfl rfl cells_one (by have := hx'.out; have := HLy.out; have := HL3.out; simp only [List.length_append, List.length_cons, List.length_nil]; omega) (by simp only [World.alloc, Array.size_push]; omega) ?_)
  intro v4 w4 hb4 hg4
  have Hb4 := Lib.hid (show BR B v4 ((((xs ++ Ly.pad 4 (m.y)) ++ [45]) ++ Ly.pad 2 (m.mo)) ++ [45]) w4 by first | exact hb4 | (rw [List.append_assoc]; exact hb4) | simpa using hb4)
  have Hg4 := Lib.hid (Hg3.out.trans (((Gw.refl _ _).alloc _).trans hg4))
  have hB4 : B ≤ w4.heap.size := by have h1 := Hg4.out.1.size; omega
  clear hb4 hg4
  go_wp2_with fail
  go_at_call 157
  refine (aint 2 (m.d) (d) HR.out.2.2 _ Hb4.out (.inl ⟨rfl, n3.out⟩) (by have := hx'.out; have := HLy.out; have := HL3.out; simp only [List.length_append, List.length_cons, List.length_nil]; omega) hB4).mono ?_
  rintro r w5 ⟨v5, rfl, hb5, hg5⟩
  have Hb5 := Lib.hid (show BR B v5 (((((xs ++ Ly.pad 4 (m.y)) ++ [45]) ++ Ly.pad 2 (m.mo)) ++ [45]) ++ Ly.pad 2 (m.d)) w5 by first | exact hb5 | (rw [List.append_assoc]; exact hb5) | simpa using hb5)
  have Hg5 := Lib.hid (Hg4.out.trans (hg5))
  have hB5 : B ≤ w5.heap.size := by have h1 := Hg5.out.1.size; omega
  clear hb5 hg5
  have HL5 := Lib.hid (Ly.pad_length (k := 2) (a := m.d) (by decide) n3.out)
  go_wp2_with (at_builtin; refine wpList_append_br rfl _ _ rfl rfl (Hb5.out.alloc _) [84] ⟨w5.heap.size, 0, none⟩ 1 1 rfl rfl cells_one (by have := hx'.out; have := HLy.out; have := HL3.out; have := HL5.out; simp only [List.length_append, List.length_cons, List.length_nil]; omega) (by simp only [World.alloc, Array.size_push]; omega) ?_)
  intro v6 w6 hb6 hg6
  have Hb6 := Lib.hid (show BR B v6 ((((((xs ++ Ly.pad 4 (m.y)) ++ [45]) ++ Ly.pad 2 (m.mo)) ++ [45]) ++ Ly.pad 2 (m.d)) ++ [84]) w6 by first | exact hb6 | (rw [List.append_assoc]; exact hb6) | simpa using hb6)
  have Hg6 := Lib.hid (Hg5.out.trans (((Gw.refl _ _).alloc _).trans hg6))
  have hB6 : B ≤ w6.heap.size := by have h1 := Hg6.out.1.size; omega
  clear hb6 hg6
  go_wp2_with fail
  go_at_call 158
  refine (clock_any t A (by rw [HA.out, HC.out.hte]) HC.out.t2 _).mono ?_
  rintro r w' ⟨hh, mi, s, rfl, h1, h2, h3, rfl⟩
  have HS := Lib.hid (show hh = (m.h : Int) ∧ mi = (m.mi : Int) ∧ s = (m.s : Int) by (rw [HC.out.hmo]; exact ⟨h1, h2, h3⟩))
  clear h1 h2 h3
  go_wp2_with fail
  go_at_call 157
  refine (aint 2 (m.h) (hh) HS.out.1 _ Hb6.out (.inl ⟨rfl, n4.out⟩) (by have := hx'.out; have := HLy.out; have := HL3.out; have := HL5.out; simp only [List.length_append, List.length_cons, List.length_nil]; omega) hB6).mono ?_
  rintro r w7 ⟨v7, rfl, hb7, hg7⟩
  have Hb7 := Lib.hid (show BR B v7 (((((((xs ++ Ly.pad 4 (m.y)) ++ [45]) ++ Ly.pad 2 (m.mo)) ++ [45]) ++ Ly.pad 2 (m.d)) ++ [84]) ++ Ly.pad 2 (m.h)) w7 by first | exact hb7 | (rw [List.append_assoc]; exact hb7) | simpa using hb7)
  have Hg7 := Lib.hid (Hg6.out.trans (hg7))
  have hB7 : B ≤ w7.heap.size := by have h1 := Hg7.out.1.size; omega
  clear hb7 hg7
  have HL7 := Lib.hid (Ly.pad_length (k := 2) (a := m.h) (by decide) n4.out)
  go_wp2_with (at_builtin; refine wpList_append_br rfl _ _ rfl rfl (Hb7.out.alloc _) [58] ⟨w7.heap.size, 0, none⟩ 1 1 rfl rfl cells_one (by have := hx'.out; have := HLy.out; have := HL3.out; have := HL5.out; have := HL7.out; simp only [List.length_append, List.length_cons, List.length_nil]; omega) (by simp only [World.alloc, Array.size_push]; omega) ?_)
  intro v8 w8 hb8 hg8
  have Hb8 := Lib.hid (show BR B v8 ((((((((xs ++ Ly.pad 4 (m.y)) ++ [45]) ++ Ly.pad 2 (m.mo)) ++ [45]) ++ Ly.pad 2 (m.d)) ++ [84]) ++ Ly.pad 2 (m.h)) ++ [58]) w8 by first | exact hb8 | (rw [List.append_assoc]; exact hb8) | simpa using hb8)
  have Hg8 := Lib.hid (Hg7.out.trans (((Gw.refl _ _).alloc _).trans hg8))
  have hB8 : B ≤ w8.heap.size := by have h1 := Hg8.out.1.size; omega
  clear hb8 hg8
  go_wp2_with fail
  go_at_call 157
  refine (aint 2 (m.mi) (mi) HS.out.2.1 _ Hb8.out (.inl ⟨rfl, n5.out⟩) (by have := hx'.out; have := HLy.out; have := HL3.out; have := HL5.out; have := HL7.out; simp only [List.length_append, List.length_cons, List.length_nil]; omega) hB8).mono ?_
  rintro r w9 ⟨v9, rfl, hb9, hg9⟩
  have Hb9 := Lib.hid (show BR B v9 (((((((((xs ++ Ly.pad 4 (m.y)) ++ [45]) ++ Ly.pad 2 (m.mo)) ++ [45]) ++ Ly.pad 2 (m.d)) ++ [84]) ++ Ly.pad 2 (m.h)) ++ [58]) ++ Ly.pad 2 (m.mi)) w9 by first | exact hb9 | (rw [List.append_assoc]; exact hb9) | simpa using hb9)
  have Hg9 := Lib.hid (Hg8.out.trans (hg9))
  have hB9 : B ≤ w9.heap.size := by have h1 := Hg9.out.1.size; omega
  clear hb9 hg9
  have HL9 := Lib.hid (Ly.pad_length (k := 2) (a := m.mi) (by decide) n5.out)
  go_wp2_with (at_builtin; refine wpList_append_br rfl _ _ rfl rfl (Hb9.out.alloc _) [58] ⟨w9.heap.size, 0, none⟩ 1 1 rfl rfl cells_one (by have := hx'.out; have := HLy.out; have := HL3.out; have := HL5.out; have := HL7.out; have := HL9.out; simp only [List.length_append, List.length_cons, List.length_nil]; omega) (by simp only [World.alloc, Array.size_push]; omega) ?_)
  intro v10 w10 hb10 hg10
  have Hb10 := Lib.hid (show BR B v10 ((((((((((xs ++ Ly.pad 4 (m.y)) ++ [45]) ++ Ly.pad 2 (m.mo)) ++ [45]) ++ Ly.pad 2 (m.d)) ++ [84]) ++ Ly.pad 2 (m.h)) ++ [58]) ++ Ly.pad 2 (m.mi)) ++ [58]) w10 by first | exact hb10 | (rw [List.append_assoc]; exact hb10) | simpa using hb10)
  have Hg10 := Lib.hid (Hg9.out.trans (((Gw.refl _ _).alloc _).trans hg10))
  have hB10 : B ≤ w10.heap.size := by have h1 := Hg10.out.1.size; omega
  clear hb10 hg10
  go_wp2_with fail
  go_at_call 157
  refine (aint 2 (m.s) (s) HS.out.2.2 _ Hb10.out (.inl ⟨rfl, n6.out⟩) (by have := hx'.out; have := HLy.out; have := HL3.out; have := HL5.out; have := HL7.out; have := HL9.out; simp only [List.length_append, List.length_cons, List.length_nil]; omega) hB10).mono ?_
  rintro r w11 ⟨v11, rfl, hb11, hg11⟩
  have Hb11 := Lib.hid (show BR B v11 (((((((((((xs ++ Ly.pad 4 (m.y)) ++ [45]) ++ Ly.pad 2 (m.mo)) ++ [45]) ++ Ly.pad 2 (m.d)) ++ [84]) ++ Ly.pad 2 (m.h)) ++ [58]) ++ Ly.pad 2 (m.mi)) ++ [58]) ++ Ly.pad 2 (m.s)) w11 by first | exact hb11 | (rw [List.append_assoc]; exact hb11) | simpa using hb11)
  have Hg11 := Lib.hid (Hg10.out.trans (hg11))
  have hB11 : B ≤ w11.heap.size := by have h1 := Hg11.out.1.size; omega
  clear hb11 hg11
  have HL11 := Lib.hid (Ly.pad_length (k := 2) (a := m.s) (by decide) n6.out)
  go_wp2_with (at_builtin; refine wpList_append_br rfl _ _ rfl rfl (Hb11.out.alloc _) [90] ⟨w11.heap.size, 0, none⟩ 1 1 rfl rfl cells_one (by have := hx'.out; have := HLy.out; have := HL3.out; have := HL5.out; have := HL7.out; have := HL9.out; have := HL11.out; simp only [List.length_append, List.length_cons, List.length_nil]; omega) (by simp only [World.alloc, Array.size_push]; omega) ?_)
  intro v12 w12 hb12 hg12
  have Hb12 := Lib.hid (show BR B v12 ((((((((((((xs ++ Ly.pad 4 (m.y)) ++ [45]) ++ Ly.pad 2 (m.mo)) ++ [45]) ++ Ly.pad 2 (m.d)) ++ [84]) ++ Ly.pad 2 (m.h)) ++ [58]) ++ Ly.pad 2 (m.mi)) ++ [58]) ++ Ly.pad 2 (m.s)) ++ [90]) w12 by first | exact hb12 | (rw [List.append_assoc]; exact hb12) | simpa using hb12)
  have Hg12 := Lib.hid (Hg11.out.trans (((Gw.refl _ _).alloc _).trans hg12))
  have hB12 : B ≤ w12.heap.size := by have h1 := Hg12.out.1.size; omega
  clear hb12 hg12
  go_wp2
  go_ret
  exact ⟨v12, rfl, (by have ht : xs ++ Ly.lay (Ly.txt m) rfc = ((((((((((((xs ++ Ly.pad 4 (m.y)) ++ [45]) ++ Ly.pad 2 (m.mo)) ++ [45]) ++ Ly.pad 2 (m.d)) ++ [84]) ++ Ly.pad 2 (m.h)) ++ [58]) ++ Ly.pad 2 (m.mi)) ++ [58]) ++ Ly.pad 2 (m.s)) ++ [90]) := (by rw [rfc_txt]; rw [if_pos Hc.out]; simp); rw [ht]; exact Hb12.out), Hgw.out.trans Hg12.out⟩

set_option maxRecDepth 100000 in
set_option maxHeartbeats 8000000 in
theorem rfc0_neg {B : Nat} {v : Value} {xs : List UInt8} (Z : ByteArray) (te na off : Int) (m : Ly.Mo) (t : Nat) (w0 : World) (h : BR B v xs w0) (C : TmCtx B Z off te na m t w0) (hx : xs.length ≤ 1000) (hc : m.off < 0) :
    Calls Tryz.prog 130 #[tmV te na Z off, v, .bool false] w0 (BrPost B v (xs ++ Ly.lay (Ly.txt m) rfc) w0) := by
  have H := Lib.hid h
  have HC := Lib.hid C
  have Hm := Lib.hid C.ok
  have hx' := Lib.hid hx
  have ho := C.hoff
  have f0 : (off == 0) = false := by rw [beq_eq_false_iff_ne]; omega
  have HO := Lib.hid ho
  have H60 := Lib.hid Hm.out.off60
  obtain ⟨zp, hzp⟩ : ∃ zp : Int, zp = ((m.off.natAbs / 60 : Nat) : Int) := ⟨_, rfl⟩
  have zp0 : 1 ≤ zp := by have := Hm.out.off60; omega
  have zp1 : zp ≤ 1440 := by have := Hm.out.off1; have := Hm.out.off; omega
  have ho0 : off < 0 := by omega
  have hq1 : off.tdiv 60 = -zp := by rw [tdiv_below (by omega)]; have := Hm.out.off60; omega
  have o1 : -86400 < off := by have := Hm.out.off1; omega
  have HX3 := Lib.hid (show -off.tmod 60 = ((m.off.natAbs % 60 : Nat) : Int) by rw [Int.tmod_eq_zero_of_dvd (Int.dvd_of_emod_eq_zero (show off % 60 = 0 by rw [ho]; exact Hm.out.off60))]; have := Hm.out.off60; omega)
  have HX1 := Lib.hid (show zp / 60 = ((m.off.natAbs / 3600 : Nat) : Int) by omega)
  have HX2 := Lib.hid (show zp % 60 = ((m.off.natAbs / 60 % 60 : Nat) : Int) by omega)
  have hn1 := Lib.hid (show m.off.natAbs / 3600 < 100 by have := Hm.out.off1; have := Hm.out.off; omega)
  have hn2 := Lib.hid (show m.off.natAbs / 60 % 60 < 100 by omega)
  have hn3 := Lib.hid (show m.off.natAbs % 60 < 100 by omega)
  have Hc := Lib.hid hc
  clear h C hx ho hc hzp
  unfold tmV
  go_enter Tryz.func130, Tryz.ntmps130
  go_wp2_with fail
  go_at_call 154
  refine (locabs_any te na off Z (by have := HC.out.hte; omega) HC.out.te1 HC.out.te0 (by rw [HC.out.hoff]; exact HC.out.ok.off1) (by rw [HC.out.hoff]; exact HC.out.ok.off) _).mono ?_
  rintro r w ⟨A, rfl, hA, hb1⟩
  have HA := Lib.hid hA
  clear hA
  have hb0 : Below (w0.heap.size + 1) (w0.alloc (.cells #[.int .i64 te, .int .i32 na, .string Z, .int .i64 off] 96)) w := hb1.mono (by simp)
  have hb2 : Below w0.heap.size w0 w := ((Below.refl _ w0).alloc (Nat.le_refl _) _).trans (hb0.mono (by omega))
  have Hb := Lib.hid (H.out.below hb2)
  have Hb0 := Lib.hid hb0
  have Hgw := Lib.hid (Gw.of_below (v := v) hb2)
  have hB : B ≤ w.heap.size := by have := hb2.size; have := HC.out.hB; omega
  clear hb1 hb0 hb2
  go_wp2_with fail
  go_at_call 155
  refine (absDays_any t A (by rw [HA.out, HC.out.hte]) HC.out.t2 _).mono ?_
  rintro r w' ⟨D, rfl, hD, rfl⟩
  have HD := Lib.hid hD
  clear hD
  go_wp2_with fail
  go_at_call 156
  refine (date_any (t / 86400 + 306) D HD.out (by have := HC.out.t2; omega) _).mono ?_
  rintro r w' ⟨y, mo, d, rfl, h1, h2, h3, rfl⟩
  have HR := Lib.hid (show y = (m.y : Int) ∧ mo = (m.mo : Int) ∧ d = (m.d : Int) by (rw [HC.out.hmo]; exact ⟨h1, h2, h3⟩))
  clear h1 h2 h3
  have n1 := Lib.hid (show m.y < 10000 by have := Hm.out.y; have := Hm.out.mo; have := Hm.out.mo1; have := Hm.out.d; have := Hm.out.d1; have := Hm.out.yd; have := Hm.out.yd1; have := Hm.out.wd; have := Hm.out.h; have := Hm.out.mi; have := Hm.out.s; omega)
  have n2 := Lib.hid (show m.mo < 100 by have := Hm.out.y; have := Hm.out.mo; have := Hm.out.mo1; have := Hm.out.d; have := Hm.out.d1; have := Hm.out.yd; have := Hm.out.yd1; have := Hm.out.wd; have := Hm.out.h; have := Hm.out.mi; have := Hm.out.s; omega)
  have n3 := Lib.hid (show m.d < 100 by have := Hm.out.y; have := Hm.out.mo; have := Hm.out.mo1; have := Hm.out.d; have := Hm.out.d1; have := Hm.out.yd; have := Hm.out.yd1; have := Hm.out.wd; have := Hm.out.h; have := Hm.out.mi; have := Hm.out.s; omega)
  have n4 := Lib.hid (show m.h < 100 by have := Hm.out.y; have := Hm.out.mo; have := Hm.out.mo1; have := Hm.out.d; have := Hm.out.d1; have := Hm.out.yd; have := Hm.out.yd1; have := Hm.out.wd; have := Hm.out.h; have := Hm.out.mi; have := Hm.out.s; omega)
  have n5 := Lib.hid (show m.mi < 100 by have := Hm.out.y; have := Hm.out.mo; have := Hm.out.mo1; have := Hm.out.d; have := Hm.out.d1; have := Hm.out.yd; have := Hm.out.yd1; have := Hm.out.wd; have := Hm.out.h; have := Hm.out.mi; have := Hm.out.s; omega)
  have n6 := Lib.hid (show m.s < 100 by have := Hm.out.y; have := Hm.out.mo; have := Hm.out.mo1; have := Hm.out.d; have := Hm.out.d1; have := Hm.out.yd; have := Hm.out.yd1; have := Hm.out.wd; have := Hm.out.h; have := Hm.out.mi; have := Hm.out.s; omega)
  have Hg0 := Lib.hid (Gw.refl v w)
  go_wp2_with fail
  go_at_call 157
  refine (aint 4 (m.y) (y) HR.out.1 _ Hb.out (.inr (.inl ⟨rfl, n1.out⟩)) (by have := hx'.out; omega) hB).mono ?_
  rintro r w1 ⟨v1, rfl, hb1, hg1⟩
  have Hb1 := Lib.hid hb1
  have Hg1 := Lib.hid (Hg0.out.trans (hg1))
  have hB1 : B ≤ w1.heap.size := by have h1 := Hg1.out.1.size; omega
  clear hb1 hg1
  have HLy := Lib.hid (Ly.pad_length (k := 4) (a := m.y) (by decide) n1.out)
  go_wp2_with (at_builtin; refine wpList_append_br rfl _ _ rfl rfl (Hb1.out.alloc _) [45] ⟨w1.heap.size, 0, none⟩ 1 1 rfl rfl cells_one (by have := hx'.out; have := HLy.out; simp only [List.length_append, List.length_cons, List.length_nil]; omega) (by simp only [World.alloc, Array.size_push]; omega) ?_)
  intro v2 w2 hb2 hg2
  have Hb2 := Lib.hid (show BR B v2 ((xs ++ Ly.pad 4 (m.y)) ++ [45]) w2 by first | exact hb2 | (rw [List.append_assoc]; exact hb2) | simpa using hb2)
  have Hg2 := Lib.hid (Hg1.out.trans (((Gw.refl _ _).alloc _).trans hg2))
  have hB2 : B ≤ w2.heap.size := by have h1 := Hg2.out.1.size; omega
  clear hb2 hg2
  go_wp2_with fail
  go_at_call 157
  refine (aint 2 (m.mo) (mo) HR.out.2.1 _ Hb2.out (.inl ⟨rfl, n2.out⟩) (by have := hx'.out; have := HLy.out; simp only [List.length_append, List.length_cons, List.length_nil]; omega) hB2).mono ?_
  rintro r w3 ⟨v3, rfl, hb3, hg3⟩
  have Hb3 := Lib.hid (show BR B v3 (((xs ++ Ly.pad 4 (m.y)) ++ [45]) ++ Ly.pad 2 (m.mo)) w3 by first | exact hb3 | (rw [List.append_assoc]; exact hb3) | simpa using hb3)
  have Hg3 := Lib.hid (Hg2.out.trans (hg3))
  have hB3 : B ≤ w3.heap.size := by have h1 := Hg3.out.1.size; omega
  clear hb3 hg3
  have HL3 := Lib.hid (Ly.pad_length (k := 2) (a := m.mo) (by decide) n2.out)
  go_wp2_with (at_builtin; refine wpList_append_br rfl _ _ rfl rfl (Hb3.out.alloc _) [45] ⟨w3.heap.size, 0, none⟩ 1 1 rfl rfl cells_one (by have := hx'.out; have := HLy.out; have := HL3.out; simp only [List.length_append, List.length_cons, List.length_nil]; omega) (by simp only [World.alloc, Array.size_push]; omega) ?_)
  intro v4 w4 hb4 hg4
  have Hb4 := Lib.hid (show BR B v4 ((((xs ++ Ly.pad 4 (m.y)) ++ [45]) ++ Ly.pad 2 (m.mo)) ++ [45]) w4 by first | exact hb4 | (rw [List.append_assoc]; exact hb4) | simpa using hb4)
  have Hg4 := Lib.hid (Hg3.out.trans (((Gw.refl _ _).alloc _).trans hg4))
  have hB4 : B ≤ w4.heap.size := by have h1 := Hg4.out.1.size; omega
  clear hb4 hg4
  go_wp2_with fail
  go_at_call 157
  refine (aint 2 (m.d) (d) HR.out.2.2 _ Hb4.out (.inl ⟨rfl, n3.out⟩) (by have := hx'.out; have := HLy.out; have := HL3.out; simp only [List.length_append, List.length_cons, List.length_nil]; omega) hB4).mono ?_
  rintro r w5 ⟨v5, rfl, hb5, hg5⟩
  have Hb5 := Lib.hid (show BR B v5 (((((xs ++ Ly.pad 4 (m.y)) ++ [45]) ++ Ly.pad 2 (m.mo)) ++ [45]) ++ Ly.pad 2 (m.d)) w5 by first | exact hb5 | (rw [List.append_assoc]; exact hb5) | simpa using hb5)
  have Hg5 := Lib.hid (Hg4.out.trans (hg5))
  have hB5 : B ≤ w5.heap.size := by have h1 := Hg5.out.1.size; omega
  clear hb5 hg5
  have HL5 := Lib.hid (Ly.pad_length (k := 2) (a := m.d) (by decide) n3.out)
  go_wp2_with (at_builtin; refine wpList_append_br rfl _ _ rfl rfl (Hb5.out.alloc _) [84] ⟨w5.heap.size, 0, none⟩ 1 1 rfl rfl cells_one (by have := hx'.out; have := HLy.out; have := HL3.out; have := HL5.out; simp only [List.length_append, List.length_cons, List.length_nil]; omega) (by simp only [World.alloc, Array.size_push]; omega) ?_)
  intro v6 w6 hb6 hg6
  have Hb6 := Lib.hid (show BR B v6 ((((((xs ++ Ly.pad 4 (m.y)) ++ [45]) ++ Ly.pad 2 (m.mo)) ++ [45]) ++ Ly.pad 2 (m.d)) ++ [84]) w6 by first | exact hb6 | (rw [List.append_assoc]; exact hb6) | simpa using hb6)
  have Hg6 := Lib.hid (Hg5.out.trans (((Gw.refl _ _).alloc _).trans hg6))
  have hB6 : B ≤ w6.heap.size := by have h1 := Hg6.out.1.size; omega
  clear hb6 hg6
  go_wp2_with fail
  go_at_call 158
  refine (clock_any t A (by rw [HA.out, HC.out.hte]) HC.out.t2 _).mono ?_
  rintro r w' ⟨hh, mi, s, rfl, h1, h2, h3, rfl⟩
  have HS := Lib.hid (show hh = (m.h : Int) ∧ mi = (m.mi : Int) ∧ s = (m.s : Int) by (rw [HC.out.hmo]; exact ⟨h1, h2, h3⟩))
  clear h1 h2 h3
  go_wp2_with fail
  go_at_call 157
  refine (aint 2 (m.h) (hh) HS.out.1 _ Hb6.out (.inl ⟨rfl, n4.out⟩) (by have := hx'.out; have := HLy.out; have := HL3.out; have := HL5.out; simp only [List.length_append, List.length_cons, List.length_nil]; omega) hB6).mono ?_
  rintro r w7 ⟨v7, rfl, hb7, hg7⟩
  have Hb7 := Lib.hid (show BR B v7 (((((((xs ++ Ly.pad 4 (m.y)) ++ [45]) ++ Ly.pad 2 (m.mo)) ++ [45]) ++ Ly.pad 2 (m.d)) ++ [84]) ++ Ly.pad 2 (m.h)) w7 by first | exact hb7 | (rw [List.append_assoc]; exact hb7) | simpa using hb7)
  have Hg7 := Lib.hid (Hg6.out.trans (hg7))
  have hB7 : B ≤ w7.heap.size := by have h1 := Hg7.out.1.size; omega
  clear hb7 hg7
  have HL7 := Lib.hid (Ly.pad_length (k := 2) (a := m.h) (by decide) n4.out)
  go_wp2_with (at_builtin; refine wpList_append_br rfl _ _ rfl rfl (Hb7.out.alloc _) [58] ⟨w7.heap.size, 0, none⟩ 1 1 rfl rfl cells_one (by have := hx'.out; have := HLy.out; have := HL3.out; have := HL5.out; have := HL7.out; simp only [List.length_append, List.length_cons, List.length_nil]; omega) (by simp only [World.alloc, Array.size_push]; omega) ?_)
  intro v8 w8 hb8 hg8
  have Hb8 := Lib.hid (show BR B v8 ((((((((xs ++ Ly.pad 4 (m.y)) ++ [45]) ++ Ly.pad 2 (m.mo)) ++ [45]) ++ Ly.pad 2 (m.d)) ++ [84]) ++ Ly.pad 2 (m.h)) ++ [58]) w8 by first | exact hb8 | (rw [List.append_assoc]; exact hb8) | simpa using hb8)
  have Hg8 := Lib.hid (Hg7.out.trans (((Gw.refl _ _).alloc _).trans hg8))
  have hB8 : B ≤ w8.heap.size := by have h1 := Hg8.out.1.size; omega
  clear hb8 hg8
  go_wp2_with fail
  go_at_call 157
  refine (aint 2 (m.mi) (mi) HS.out.2.1 _ Hb8.out (.inl ⟨rfl, n5.out⟩) (by have := hx'.out; have := HLy.out; have := HL3.out; have := HL5.out; have := HL7.out; simp only [List.length_append, List.length_cons, List.length_nil]; omega) hB8).mono ?_
  rintro r w9 ⟨v9, rfl, hb9, hg9⟩
  have Hb9 := Lib.hid (show BR B v9 (((((((((xs ++ Ly.pad 4 (m.y)) ++ [45]) ++ Ly.pad 2 (m.mo)) ++ [45]) ++ Ly.pad 2 (m.d)) ++ [84]) ++ Ly.pad 2 (m.h)) ++ [58]) ++ Ly.pad 2 (m.mi)) w9 by first | exact hb9 | (rw [List.append_assoc]; exact hb9) | simpa using hb9)
  have Hg9 := Lib.hid (Hg8.out.trans (hg9))
  have hB9 : B ≤ w9.heap.size := by have h1 := Hg9.out.1.size; omega
  clear hb9 hg9
  have HL9 := Lib.hid (Ly.pad_length (k := 2) (a := m.mi) (by decide) n5.out)
  go_wp2_with (at_builtin; refine wpList_append_br rfl _ _ rfl rfl (Hb9.out.alloc _) [58] ⟨w9.heap.size, 0, none⟩ 1 1 rfl rfl cells_one (by have := hx'.out; have := HLy.out; have := HL3.out; have := HL5.out; have := HL7.out; have := HL9.out; simp only [List.length_append, List.length_cons, List.length_nil]; omega) (by simp only [World.alloc, Array.size_push]; omega) ?_)
  intro v10 w10 hb10 hg10
  have Hb10 := Lib.hid (show BR B v10 ((((((((((xs ++ Ly.pad 4 (m.y)) ++ [45]) ++ Ly.pad 2 (m.mo)) ++ [45]) ++ Ly.pad 2 (m.d)) ++ [84]) ++ Ly.pad 2 (m.h)) ++ [58]) ++ Ly.pad 2 (m.mi)) ++ [58]) w10 by first | exact hb10 | (rw [List.append_assoc]; exact hb10) | simpa using hb10)
  have Hg10 := Lib.hid (Hg9.out.trans (((Gw.refl _ _).alloc _).trans hg10))
  have hB10 : B ≤ w10.heap.size := by have h1 := Hg10.out.1.size; omega
  clear hb10 hg10
  go_wp2_with fail
  go_at_call 157
  refine (aint 2 (m.s) (s) HS.out.2.2 _ Hb10.out (.inl ⟨rfl, n6.out⟩) (by have := hx'.out; have := HLy.out; have := HL3.out; have := HL5.out; have := HL7.out; have := HL9.out; simp only [List.length_append, List.length_cons, List.length_nil]; omega) hB10).mono ?_
  rintro r w11 ⟨v11, rfl, hb11, hg11⟩
  have Hb11 := Lib.hid (show BR B v11 (((((((((((xs ++ Ly.pad 4 (m.y)) ++ [45]) ++ Ly.pad 2 (m.mo)) ++ [45]) ++ Ly.pad 2 (m.d)) ++ [84]) ++ Ly.pad 2 (m.h)) ++ [58]) ++ Ly.pad 2 (m.mi)) ++ [58]) ++ Ly.pad 2 (m.s)) w11 by first | exact hb11 | (rw [List.append_assoc]; exact hb11) | simpa using hb11)
  have Hg11 := Lib.hid (Hg10.out.trans (hg11))
  have hB11 : B ≤ w11.heap.size := by have h1 := Hg11.out.1.size; omega
  clear hb11 hg11
  have HL11 := Lib.hid (Ly.pad_length (k := 2) (a := m.s) (by decide) n6.out)
  go_wp2_with (at_builtin; refine wpList_append_br rfl _ _ rfl rfl (Hb11.out.alloc _) [45] ⟨w11.heap.size, 0, none⟩ 1 1 rfl rfl cells_one (by have := hx'.out; have := HLy.out; have := HL3.out; have := HL5.out; have := HL7.out; have := HL9.out; have := HL11.out; simp only [List.length_append, List.length_cons, List.length_nil]; omega) (by simp only [World.alloc, Array.size_push]; omega) ?_)
  intro v12 w12 hb12 hg12
  have Hb12 := Lib.hid (show BR B v12 ((((((((((((xs ++ Ly.pad 4 (m.y)) ++ [45]) ++ Ly.pad 2 (m.mo)) ++ [45]) ++ Ly.pad 2 (m.d)) ++ [84]) ++ Ly.pad 2 (m.h)) ++ [58]) ++ Ly.pad 2 (m.mi)) ++ [58]) ++ Ly.pad 2 (m.s)) ++ [45]) w12 by first | exact hb12 | (rw [List.append_assoc]; exact hb12) | simpa using hb12)
  have Hg12 := Lib.hid (Hg11.out.trans (((Gw.refl _ _).alloc _).trans hg12))
  have hB12 : B ≤ w12.heap.size := by have h1 := Hg12.out.1.size; omega
  clear hb12 hg12
  go_wp2_with fail
  go_at_call 157
  refine (aint 2 (m.off.natAbs / 3600) (zp / 60) HX1.out _ Hb12.out (.inl ⟨rfl, hn1.out⟩) (by have := hx'.out; have := HLy.out; have := HL3.out; have := HL5.out; have := HL7.out; have := HL9.out; have := HL11.out; simp only [List.length_append, List.length_cons, List.length_nil]; omega) hB12).mono ?_
  rintro r w13 ⟨v13, rfl, hb13, hg13⟩
  have Hb13 := Lib.hid (show BR B v13 (((((((((((((xs ++ Ly.pad 4 (m.y)) ++ [45]) ++ Ly.pad 2 (m.mo)) ++ [45]) ++ Ly.pad 2 (m.d)) ++ [84]) ++ Ly.pad 2 (m.h)) ++ [58]) ++ Ly.pad 2 (m.mi)) ++ [58]) ++ Ly.pad 2 (m.s)) ++ [45]) ++ Ly.pad 2 (m.off.natAbs / 3600)) w13 by first | exact hb13 | (rw [List.append_assoc]; exact hb13) | simpa using hb13)
  have Hg13 := Lib.hid (Hg12.out.trans (hg13))
  have hB13 : B ≤ w13.heap.size := by have h1 := Hg13.out.1.size; omega
  clear hb13 hg13
  have HL13 := Lib.hid (Ly.pad_length (k := 2) (a := m.off.natAbs / 3600) (by decide) hn1.out)
  go_wp2_with (at_builtin; refine wpList_append_br rfl _ _ rfl rfl (Hb13.out.alloc _) [58] ⟨w13.heap.size, 0, none⟩ 1 1 rfl rfl cells_one (by have := hx'.out; have := HLy.out; have := HL3.out; have := HL5.out; have := HL7.out; have := HL9.out; have := HL11.out; have := HL13.out; simp only [List.length_append, List.length_cons, List.length_nil]; omega) (by simp only [World.alloc, Array.size_push]; omega) ?_)
  intro v14 w14 hb14 hg14
  have Hb14 := Lib.hid (show BR B v14 ((((((((((((((xs ++ Ly.pad 4 (m.y)) ++ [45]) ++ Ly.pad 2 (m.mo)) ++ [45]) ++ Ly.pad 2 (m.d)) ++ [84]) ++ Ly.pad 2 (m.h)) ++ [58]) ++ Ly.pad 2 (m.mi)) ++ [58]) ++ Ly.pad 2 (m.s)) ++ [45]) ++ Ly.pad 2 (m.off.natAbs / 3600)) ++ [58]) w14 by first | exact hb14 | (rw [List.append_assoc]; exact hb14) | simpa using hb14)
  have Hg14 := Lib.hid (Hg13.out.trans (((Gw.refl _ _).alloc _).trans hg14))
  have hB14 : B ≤ w14.heap.size := by have h1 := Hg14.out.1.size; omega
  clear hb14 hg14
  go_wp2_with fail
  go_at_call 157
  refine (aint 2 (m.off.natAbs / 60 % 60) (zp % 60) HX2.out _ Hb14.out (.inl ⟨rfl, hn2.out⟩) (by have := hx'.out; have := HLy.out; have := HL3.out; have := HL5.out; have := HL7.out; have := HL9.out; have := HL11.out; have := HL13.out; simp only [List.length_append, List.length_cons, List.length_nil]; omega) hB14).mono ?_
  rintro r w15 ⟨v15, rfl, hb15, hg15⟩
  have Hb15 := Lib.hid (show BR B v15 (((((((((((((((xs ++ Ly.pad 4 (m.y)) ++ [45]) ++ Ly.pad 2 (m.mo)) ++ [45]) ++ Ly.pad 2 (m.d)) ++ [84]) ++ Ly.pad 2 (m.h)) ++ [58]) ++ Ly.pad 2 (m.mi)) ++ [58]) ++ Ly.pad 2 (m.s)) ++ [45]) ++ Ly.pad 2 (m.off.natAbs / 3600)) ++ [58]) ++ Ly.pad 2 (m.off.natAbs / 60 % 60)) w15 by first | exact hb15 | (rw [List.append_assoc]; exact hb15) | simpa using hb15)
  have Hg15 := Lib.hid (Hg14.out.trans (hg15))
  have hB15 : B ≤ w15.heap.size := by have h1 := Hg15.out.1.size; omega
  clear hb15 hg15
  have HL15 := Lib.hid (Ly.pad_length (k := 2) (a := m.off.natAbs / 60 % 60) (by decide) hn2.out)
  go_wp2
  go_ret
  exact ⟨v15, rfl, (by have ht : xs ++ Ly.lay (Ly.txt m) rfc = (((((((((((((((xs ++ Ly.pad 4 (m.y)) ++ [45]) ++ Ly.pad 2 (m.mo)) ++ [45]) ++ Ly.pad 2 (m.d)) ++ [84]) ++ Ly.pad 2 (m.h)) ++ [58]) ++ Ly.pad 2 (m.mi)) ++ [58]) ++ Ly.pad 2 (m.s)) ++ [45]) ++ Ly.pad 2 (m.off.natAbs / 3600)) ++ [58]) ++ Ly.pad 2 (m.off.natAbs / 60 % 60)) := (by rw [rfc_txt]; rw [if_neg (by have := Hc.out; omega)]; unfold Ly.zn; rw [if_pos Hc.out]; simp); rw [ht]; exact Hb15.out), Hgw.out.trans Hg15.out⟩

set_option maxRecDepth 100000 in
set_option maxHeartbeats 8000000 in
theorem rfc0_pos {B : Nat} {v : Value} {xs : List UInt8} (Z : ByteArray) (te na off : Int) (m : Ly.Mo) (t : Nat) (w0 : World) (h : BR B v xs w0) (C : TmCtx B Z off te na m t w0) (hx : xs.length ≤ 1000) (hc : 0 < m.off) :
    Calls Tryz.prog 130 #[tmV te na Z off, v, .bool false] w0 (BrPost B v (xs ++ Ly.lay (Ly.txt m) rfc) w0) := by
  have H := Lib.hid h
  have HC := Lib.hid C
  have Hm := Lib.hid C.ok
  have hx' := Lib.hid hx
  have ho := C.hoff
  have f0 : (off == 0) = false := by rw [beq_eq_false_iff_ne]; omega
  have HO := Lib.hid ho
  have H60 := Lib.hid Hm.out.off60
  obtain ⟨zp, hzp⟩ : ∃ zp : Int, zp = ((m.off.natAbs / 60 : Nat) : Int) := ⟨_, rfl⟩
  have zp0 : 0 ≤ zp := by have := Hm.out.off60; omega
  have zp1 : zp ≤ 1440 := by have := Hm.out.off1; have := Hm.out.off; omega
  have ho0 : 0 ≤ off := by omega
  have hq1 : off.tdiv 60 = zp := by rw [Int.tdiv_eq_ediv_of_nonneg (by omega)]; omega
  have hq2 : off / 60 = zp := by omega
  have o1 : off < 86400 := by have := Hm.out.off; omega
  have HX3 := Lib.hid (show off % 60 = ((m.off.natAbs % 60 : Nat) : Int) by omega)
  have HX1 := Lib.hid (show zp / 60 = ((m.off.natAbs / 3600 : Nat) : Int) by omega)
  have HX2 := Lib.hid (show zp % 60 = ((m.off.natAbs / 60 % 60 : Nat) : Int) by omega)
  have hn1 := Lib.hid (show m.off.natAbs / 3600 < 100 by have := Hm.out.off1; have := Hm.out.off; omega)
  have hn2 := Lib.hid (show m.off.natAbs / 60 % 60 < 100 by omega)
  have hn3 := Lib.hid (show m.off.natAbs % 60 < 100 by omega)
  have Hc := Lib.hid hc
  clear h C hx ho hc hzp
  unfold tmV
  go_enter Tryz.func130, Tryz.ntmps130
  go_wp2_with fail
  go_at_call 154
  refine (locabs_any te na off Z (by have := HC.out.hte; omega) HC.out.te1 HC.out.te0 (by rw [HC.out.hoff]; exact HC.out.ok.off1) (by rw [HC.out.hoff]; exact HC.out.ok.off) _).mono ?_
  rintro r w ⟨A, rfl, hA, hb1⟩
  have HA := Lib.hid hA
  clear hA
  have hb0 : Below (w0.heap.size + 1) (w0.alloc (.cells #[.int .i64 te, .int .i32 na, .string Z, .int .i64 off] 96)) w := hb1.mono (by simp)
  have hb2 : Below w0.heap.size w0 w := ((Below.refl _ w0).alloc (Nat.le_refl _) _).trans (hb0.mono (by omega))
  have Hb := Lib.hid (H.out.below hb2)
  have Hb0 := Lib.hid hb0
  have Hgw := Lib.hid (Gw.of_below (v := v) hb2)
  have hB : B ≤ w.heap.size := by have := hb2.size; have := HC.out.hB; omega
  clear hb1 hb0 hb2
  go_wp2_with fail
  go_at_call 155
  refine (absDays_any t A (by rw [HA.out, HC.out.hte]) HC.out.t2 _).mono ?_
  rintro r w' ⟨D, rfl, hD, rfl⟩
  have HD := Lib.hid hD
  clear hD
  go_wp2_with fail
  go_at_call 156
  refine (date_any (t / 86400 + 306) D HD.out (by have := HC.out.t2; omega) _).mono ?_
  rintro r w' ⟨y, mo, d, rfl, h1, h2, h3, rfl⟩
  have HR := Lib.hid (show y = (m.y : Int) ∧ mo = (m.mo : Int) ∧ d = (m.d : Int) by (rw [HC.out.hmo]; exact ⟨h1, h2, h3⟩))
  clear h1 h2 h3
  have n1 := Lib.hid (show m.y < 10000 by have := Hm.out.y; have := Hm.out.mo; have := Hm.out.mo1; have := Hm.out.d; have := Hm.out.d1; have := Hm.out.yd; have := Hm.out.yd1; have := Hm.out.wd; have := Hm.out.h; have := Hm.out.mi; have := Hm.out.s; omega)
  have n2 := Lib.hid (show m.mo < 100 by have := Hm.out.y; have := Hm.out.mo; have := Hm.out.mo1; have := Hm.out.d; have := Hm.out.d1; have := Hm.out.yd; have := Hm.out.yd1; have := Hm.out.wd; have := Hm.out.h; have := Hm.out.mi; have := Hm.out.s; omega)
  have n3 := Lib.hid (show m.d < 100 by have := Hm.out.y; have := Hm.out.mo; have := Hm.out.mo1; have := Hm.out.d; have := Hm.out.d1; have := Hm.out.yd; have := Hm.out.yd1; have := Hm.out.wd; have := Hm.out.h; have := Hm.out.mi; have := Hm.out.s; omega)
  have n4 := Lib.hid (show m.h < 100 by have := Hm.out.y; have := Hm.out.mo; have := Hm.out.mo1; have := Hm.out.d; have := Hm.out.d1; have := Hm.out.yd; have := Hm.out.yd1; have := Hm.out.wd; have := Hm.out.h; have := Hm.out.mi; have := Hm.out.s; omega)
  have n5 := Lib.hid (show m.mi < 100 by have := Hm.out.y; have := Hm.out.mo; have := Hm.out.mo1; have := Hm.out.d; have := Hm.out.d1; have := Hm.out.yd; have := Hm.out.yd1; have := Hm.out.wd; have := Hm.out.h; have := Hm.out.mi; have := Hm.out.s; omega)
  have n6 := Lib.hid (show m.s < 100 by have := Hm.out.y; have := Hm.out.mo; have := Hm.out.mo1; have := Hm.out.d; have := Hm.out.d1; have := Hm.out.yd; have := Hm.out.yd1; have := Hm.out.wd; have := Hm.out.h; have := Hm.out.mi; have := Hm.out.s; omega)
  have Hg0 := Lib.hid (Gw.refl v w)
  go_wp2_with fail
  go_at_call 157
  refine (aint 4 (m.y) (y) HR.out.1 _ Hb.out (.inr (.inl ⟨rfl, n1.out⟩)) (by have := hx'.out; omega) hB).mono ?_
  rintro r w1 ⟨v1, rfl, hb1, hg1⟩
  have Hb1 := Lib.hid hb1
  have Hg1 := Lib.hid (Hg0.out.trans (hg1))
  have hB1 : B ≤ w1.heap.size := by have h1 := Hg1.out.1.size; omega
  clear hb1 hg1
  have HLy := Lib.hid (Ly.pad_length (k := 4) (a := m.y) (by decide) n1.out)
  go_wp2_with (at_builtin; refine wpList_append_br rfl _ _ rfl rfl (Hb1.out.alloc _) [45] ⟨w1.heap.size, 0, none⟩ 1 1 rfl rfl cells_one (by have := hx'.out; have := HLy.out; simp only [List.length_append, List.length_cons, List.length_nil]; omega) (by simp only [World.alloc, Array.size_push]; omega) ?_)
  intro v2 w2 hb2 hg2
  have Hb2 := Lib.hid (show BR B v2 ((xs ++ Ly.pad 4 (m.y)) ++ [45]) w2 by first | exact hb2 | (rw [List.append_assoc]; exact hb2) | simpa using hb2)
  have Hg2 := Lib.hid (Hg1.out.trans (((Gw.refl _ _).alloc _).trans hg2))
  have hB2 : B ≤ w2.heap.size := by have h1 := Hg2.out.1.size; omega
  clear hb2 hg2
  go_wp2_with fail
  go_at_call 157
  refine (aint 2 (m.mo) (mo) HR.out.2.1 _ Hb2.out (.inl ⟨rfl, n2.out⟩) (by have := hx'.out; have := HLy.out; simp only [List.length_append, List.length_cons, List.length_nil]; omega) hB2).mono ?_
  rintro r w3 ⟨v3, rfl, hb3, hg3⟩
  have Hb3 := Lib.hid (show BR B v3 (((xs ++ Ly.pad 4 (m.y)) ++ [45]) ++ Ly.pad 2 (m.mo)) w3 by first | exact hb3 | (rw [List.append_assoc]; exact hb3) | simpa using hb3)
  have Hg3 := Lib.hid (Hg2.out.trans (hg3))
  have hB3 : B ≤ w3.heap.size := by have h1 := Hg3.out.1.size; omega
  clear hb3 hg3
  have HL3 := Lib.hid (Ly.pad_length (k := 2) (a := m.mo) (by decide) n2.out)
  go_wp2_with (at_builtin; refine wpList_append_br rfl _ _ rfl rfl (Hb3.out.alloc _) [45] ⟨w3.heap.size, 0, none⟩ 1 1 rfl rfl cells_one (by have := hx'.out; have := HLy.out; have := HL3.out; simp only [List.length_append, List.length_cons, List.length_nil]; omega) (by simp only [World.alloc, Array.size_push]; omega) ?_)
  intro v4 w4 hb4 hg4
  have Hb4 := Lib.hid (show BR B v4 ((((xs ++ Ly.pad 4 (m.y)) ++ [45]) ++ Ly.pad 2 (m.mo)) ++ [45]) w4 by first | exact hb4 | (rw [List.append_assoc]; exact hb4) | simpa using hb4)
  have Hg4 := Lib.hid (Hg3.out.trans (((Gw.refl _ _).alloc _).trans hg4))
  have hB4 : B ≤ w4.heap.size := by have h1 := Hg4.out.1.size; omega
  clear hb4 hg4
  go_wp2_with fail
  go_at_call 157
  refine (aint 2 (m.d) (d) HR.out.2.2 _ Hb4.out (.inl ⟨rfl, n3.out⟩) (by have := hx'.out; have := HLy.out; have := HL3.out; simp only [List.length_append, List.length_cons, List.length_nil]; omega) hB4).mono ?_
  rintro r w5 ⟨v5, rfl, hb5, hg5⟩
  have Hb5 := Lib.hid (show BR B v5 (((((xs ++ Ly.pad 4 (m.y)) ++ [45]) ++ Ly.pad 2 (m.mo)) ++ [45]) ++ Ly.pad 2 (m.d)) w5 by first | exact hb5 | (rw [List.append_assoc]; exact hb5) | simpa using hb5)
  have Hg5 := Lib.hid (Hg4.out.trans (hg5))
  have hB5 : B ≤ w5.heap.size := by have h1 := Hg5.out.1.size; omega
  clear hb5 hg5
  have HL5 := Lib.hid (Ly.pad_length (k := 2) (a := m.d) (by decide) n3.out)
  go_wp2_with (at_builtin; refine wpList_append_br rfl _ _ rfl rfl (Hb5.out.alloc _) [84] ⟨w5.heap.size, 0, none⟩ 1 1 rfl rfl cells_one (by have := hx'.out; have := HLy.out; have := HL3.out; have := HL5.out; simp only [List.length_append, List.length_cons, List.length_nil]; omega) (by simp only [World.alloc, Array.size_push]; omega) ?_)
  intro v6 w6 hb6 hg6
  have Hb6 := Lib.hid (show BR B v6 ((((((xs ++ Ly.pad 4 (m.y)) ++ [45]) ++ Ly.pad 2 (m.mo)) ++ [45]) ++ Ly.pad 2 (m.d)) ++ [84]) w6 by first | exact hb6 | (rw [List.append_assoc]; exact hb6) | simpa using hb6)
  have Hg6 := Lib.hid (Hg5.out.trans (((Gw.refl _ _).alloc _).trans hg6))
  have hB6 : B ≤ w6.heap.size := by have h1 := Hg6.out.1.size; omega
  clear hb6 hg6
  go_wp2_with fail
  go_at_call 158
  refine (clock_any t A (by rw [HA.out, HC.out.hte]) HC.out.t2 _).mono ?_
  rintro r w' ⟨hh, mi, s, rfl, h1, h2, h3, rfl⟩
  have HS := Lib.hid (show hh = (m.h : Int) ∧ mi = (m.mi : Int) ∧ s = (m.s : Int) by (rw [HC.out.hmo]; exact ⟨h1, h2, h3⟩))
  clear h1 h2 h3
  go_wp2_with fail
  go_at_call 157
  refine (aint 2 (m.h) (hh) HS.out.1 _ Hb6.out (.inl ⟨rfl, n4.out⟩) (by have := hx'.out; have := HLy.out; have := HL3.out; have := HL5.out; simp only [List.length_append, List.length_cons, List.length_nil]; omega) hB6).mono ?_
  rintro r w7 ⟨v7, rfl, hb7, hg7⟩
  have Hb7 := Lib.hid (show BR B v7 (((((((xs ++ Ly.pad 4 (m.y)) ++ [45]) ++ Ly.pad 2 (m.mo)) ++ [45]) ++ Ly.pad 2 (m.d)) ++ [84]) ++ Ly.pad 2 (m.h)) w7 by first | exact hb7 | (rw [List.append_assoc]; exact hb7) | simpa using hb7)
  have Hg7 := Lib.hid (Hg6.out.trans (hg7))
  have hB7 : B ≤ w7.heap.size := by have h1 := Hg7.out.1.size; omega
  clear hb7 hg7
  have HL7 := Lib.hid (Ly.pad_length (k := 2) (a := m.h) (by decide) n4.out)
  go_wp2_with (at_builtin; refine wpList_append_br rfl _ _ rfl rfl (Hb7.out.alloc _) [58] ⟨w7.heap.size, 0, none⟩ 1 1 rfl rfl cells_one (by have := hx'.out; have := HLy.out; have := HL3.out; have := HL5.out; have := HL7.out; simp only [List.length_append, List.length_cons, List.length_nil]; omega) (by simp only [World.alloc, Array.size_push]; omega) ?_)
  intro v8 w8 hb8 hg8
  have Hb8 := Lib.hid (show BR B v8 ((((((((xs ++ Ly.pad 4 (m.y)) ++ [45]) ++ Ly.pad 2 (m.mo)) ++ [45]) ++ Ly.pad 2 (m.d)) ++ [84]) ++ Ly.pad 2 (m.h)) ++ [58]) w8 by first | exact hb8 | (rw [List.append_assoc]; exact hb8) | simpa using hb8)
  have Hg8 := Lib.hid (Hg7.out.trans (((Gw.refl _ _).alloc _).trans hg8))
  have hB8 : B ≤ w8.heap.size := by have h1 := Hg8.out.1.size; omega
  clear hb8 hg8
  go_wp2_with fail
  go_at_call 157
  refine (aint 2 (m.mi) (mi) HS.out.2.1 _ Hb8.out (.inl ⟨rfl, n5.out⟩) (by have := hx'.out; have := HLy.out; have := HL3.out; have := HL5.out; have := HL7.out; simp only [List.length_append, List.length_cons, List.length_nil]; omega) hB8).mono ?_
  rintro r w9 ⟨v9, rfl, hb9, hg9⟩
  have Hb9 := Lib.hid (show BR B v9 (((((((((xs ++ Ly.pad 4 (m.y)) ++ [45]) ++ Ly.pad 2 (m.mo)) ++ [45]) ++ Ly.pad 2 (m.d)) ++ [84]) ++ Ly.pad 2 (m.h)) ++ [58]) ++ Ly.pad 2 (m.mi)) w9 by first | exact hb9 | (rw [List.append_assoc]; exact hb9) | simpa using hb9)
  have Hg9 := Lib.hid (Hg8.out.trans (hg9))
  have hB9 : B ≤ w9.heap.size := by have h1 := Hg9.out.1.size; omega
  clear hb9 hg9
  have HL9 := Lib.hid (Ly.pad_length (k := 2) (a := m.mi) (by decide) n5.out)
  go_wp2_with (at_builtin; refine wpList_append_br rfl _ _ rfl rfl (Hb9.out.alloc _) [58] ⟨w9.heap.size, 0, none⟩ 1 1 rfl rfl cells_one (by have := hx'.out; have := HLy.out; have := HL3.out; have := HL5.out; have := HL7.out; have := HL9.out; simp only [List.length_append, List.length_cons, List.length_nil]; omega) (by simp only [World.alloc, Array.size_push]; omega) ?_)
  intro v10 w10 hb10 hg10
  have Hb10 := Lib.hid (show BR B v10 ((((((((((xs ++ Ly.pad 4 (m.y)) ++ [45]) ++ Ly.pad 2 (m.mo)) ++ [45]) ++ Ly.pad 2 (m.d)) ++ [84]) ++ Ly.pad 2 (m.h)) ++ [58]) ++ Ly.pad 2 (m.mi)) ++ [58]) w10 by first | exact hb10 | (rw [List.append_assoc]; exact hb10) | simpa using hb10)
  have Hg10 := Lib.hid (Hg9.out.trans (((Gw.refl _ _).alloc _).trans hg10))
  have hB10 : B ≤ w10.heap.size := by have h1 := Hg10.out.1.size; omega
  clear hb10 hg10
  go_wp2_with fail
  go_at_call 157
  refine (aint 2 (m.s) (s) HS.out.2.2 _ Hb10.out (.inl ⟨rfl, n6.out⟩) (by have := hx'.out; have := HLy.out; have := HL3.out; have := HL5.out; have := HL7.out; have := HL9.out; simp only [List.length_append, List.length_cons, List.length_nil]; omega) hB10).mono ?_
  rintro r w11 ⟨v11, rfl, hb11, hg11⟩
  have Hb11 := Lib.hid (show BR B v11 (((((((((((xs ++ Ly.pad 4 (m.y)) ++ [45]) ++ Ly.pad 2 (m.mo)) ++ [45]) ++ Ly.pad 2 (m.d)) ++ [84]) ++ Ly.pad 2 (m.h)) ++ [58]) ++ Ly.pad 2 (m.mi)) ++ [58]) ++ Ly.pad 2 (m.s)) w11 by first | exact hb11 | (rw [List.append_assoc]; exact hb11) | simpa using hb11)
  have Hg11 := Lib.hid (Hg10.out.trans (hg11))
  have hB11 : B ≤ w11.heap.size := by have h1 := Hg11.out.1.size; omega
  clear hb11 hg11
  have HL11 := Lib.hid (Ly.pad_length (k := 2) (a := m.s) (by decide) n6.out)
  go_wp2_with (at_builtin; refine wpList_append_br rfl _ _ rfl rfl (Hb11.out.alloc _) [43] ⟨w11.heap.size, 0, none⟩ 1 1 rfl rfl cells_one (by have := hx'.out; have := HLy.out; have := HL3.out; have := HL5.out; have := HL7.out; have := HL9.out; have := HL11.out; simp only [List.length_append, List.length_cons, List.length_nil]; omega) (by simp only [World.alloc, Array.size_push]; omega) ?_)
  intro v12 w12 hb12 hg12
  have Hb12 := Lib.hid (show BR B v12 ((((((((((((xs ++ Ly.pad 4 (m.y)) ++ [45]) ++ Ly.pad 2 (m.mo)) ++ [45]) ++ Ly.pad 2 (m.d)) ++ [84]) ++ Ly.pad 2 (m.h)) ++ [58]) ++ Ly.pad 2 (m.mi)) ++ [58]) ++ Ly.pad 2 (m.s)) ++ [43]) w12 by first | exact hb12 | (rw [List.append_assoc]; exact hb12) | simpa using hb12)
  have Hg12 := Lib.hid (Hg11.out.trans (((Gw.refl _ _).alloc _).trans hg12))
  have hB12 : B ≤ w12.heap.size := by have h1 := Hg12.out.1.size; omega
  clear hb12 hg12
  go_wp2_with fail
  go_at_call 157
  refine (aint 2 (m.off.natAbs / 3600) (zp / 60) HX1.out _ Hb12.out (.inl ⟨rfl, hn1.out⟩) (by have := hx'.out; have := HLy.out; have := HL3.out; have := HL5.out; have := HL7.out; have := HL9.out; have := HL11.out; simp only [List.length_append, List.length_cons, List.length_nil]; omega) hB12).mono ?_
  rintro r w13 ⟨v13, rfl, hb13, hg13⟩
  have Hb13 := Lib.hid (show BR B v13 (((((((((((((xs ++ Ly.pad 4 (m.y)) ++ [45]) ++ Ly.pad 2 (m.mo)) ++ [45]) ++ Ly.pad 2 (m.d)) ++ [84]) ++ Ly.pad 2 (m.h)) ++ [58]) ++ Ly.pad 2 (m.mi)) ++ [58]) ++ Ly.pad 2 (m.s)) ++ [43]) ++ Ly.pad 2 (m.off.natAbs / 3600)) w13 by first | exact hb13 | (rw [List.append_assoc]; exact hb13) | simpa using hb13)
  have Hg13 := Lib.hid (Hg12.out.trans (hg13))
  have hB13 : B ≤ w13.heap.size := by have h1 := Hg13.out.1.size; omega
  clear hb13 hg13
  have HL13 := Lib.hid (Ly.pad_length (k := 2) (a := m.off.natAbs / 3600) (by decide) hn1.out)
  go_wp2_with (at_builtin; refine wpList_append_br rfl _ _ rfl rfl (Hb13.out.alloc _) [58] ⟨w13.heap.size, 0, none⟩ 1 1 rfl rfl cells_one (by have := hx'.out; have := HLy.out; have := HL3.out; have := HL5.out; have := HL7.out; have := HL9.out; have := HL11.out; have := HL13.out; simp only [List.length_append, List.length_cons, List.length_nil]; omega) (by simp only [World.alloc, Array.size_push]; omega) ?_)
  intro v14 w14 hb14 hg14
  have Hb14 := Lib.hid (show BR B v14 ((((((((((((((xs ++ Ly.pad 4 (m.y)) ++ [45]) ++ Ly.pad 2 (m.mo)) ++ [45]) ++ Ly.pad 2 (m.d)) ++ [84]) ++ Ly.pad 2 (m.h)) ++ [58]) ++ Ly.pad 2 (m.mi)) ++ [58]) ++ Ly.pad 2 (m.s)) ++ [43]) ++ Ly.pad 2 (m.off.natAbs / 3600)) ++ [58]) w14 by first | exact hb14 | (rw [List.append_assoc]; exact hb14) | simpa using hb14)
  have Hg14 := Lib.hid (Hg13.out.trans (((Gw.refl _ _).alloc _).trans hg14))
  have hB14 : B ≤ w14.heap.size := by have h1 := Hg14.out.1.size; omega
  clear hb14 hg14
  go_wp2_with fail
  go_at_call 157
  refine (aint 2 (m.off.natAbs / 60 % 60) (zp % 60) HX2.out _ Hb14.out (.inl ⟨rfl, hn2.out⟩) (by have := hx'.out; have := HLy.out; have := HL3.out; have := HL5.out; have := HL7.out; have := HL9.out; have := HL11.out; have := HL13.out; simp only [List.length_append, List.length_cons, List.length_nil]; omega) hB14).mono ?_
  rintro r w15 ⟨v15, rfl, hb15, hg15⟩
  have Hb15 := Lib.hid (show BR B v15 (((((((((((((((xs ++ Ly.pad 4 (m.y)) ++ [45]) ++ Ly.pad 2 (m.mo)) ++ [45]) ++ Ly.pad 2 (m.d)) ++ [84]) ++ Ly.pad 2 (m.h)) ++ [58]) ++ Ly.pad 2 (m.mi)) ++ [58]) ++ Ly.pad 2 (m.s)) ++ [43]) ++ Ly.pad 2 (m.off.natAbs / 3600)) ++ [58]) ++ Ly.pad 2 (m.off.natAbs / 60 % 60)) w15 by first | exact hb15 | (rw [List.append_assoc]; exact hb15) | simpa using hb15)
  have Hg15 := Lib.hid (Hg14.out.trans (hg15))
  have hB15 : B ≤ w15.heap.size := by have h1 := Hg15.out.1.size; omega
  clear hb15 hg15
  have HL15 := Lib.hid (Ly.pad_length (k := 2) (a := m.off.natAbs / 60 % 60) (by decide) hn2.out)
  go_wp2
  go_ret
  exact ⟨v15, rfl, (by have ht : xs ++ Ly.lay (Ly.txt m) rfc = (((((((((((((((xs ++ Ly.pad 4 (m.y)) ++ [45]) ++ Ly.pad 2 (m.mo)) ++ [45]) ++ Ly.pad 2 (m.d)) ++ [84]) ++ Ly.pad 2 (m.h)) ++ [58]) ++ Ly.pad 2 (m.mi)) ++ [58]) ++ Ly.pad 2 (m.s)) ++ [43]) ++ Ly.pad 2 (m.off.natAbs / 3600)) ++ [58]) ++ Ly.pad 2 (m.off.natAbs / 60 % 60)) := (by rw [rfc_txt]; rw [if_neg (by have := Hc.out; omega)]; unfold Ly.zn; rw [if_neg (by have := Hc.out; omega)]; simp); rw [ht]; exact Hb15.out), Hgw.out.trans Hg15.out⟩

set_option maxRecDepth 100000 in
set_option maxHeartbeats 8000000 in
theorem rfc1_zero {B : Nat} {v : Value} {xs : List UInt8} (Z : ByteArray) (te na off : Int) (m : Ly.Mo) (t : Nat) (w0 : World) (h : BR B v xs w0) (C : TmCtx B Z off te na m t w0) (hx : xs.length ≤ 1000) (hc : m.off = 0) :
    Calls Tryz.prog 130 #[tmV te na Z off, v, .bool true] w0 (BrPost B v (xs ++ Ly.lay (Ly.txt m) rfcn) w0) := by
  have H := Lib.hid h
  have HC := Lib.hid C
  have Hm := Lib.hid C.ok
  have hx' := Lib.hid hx
  have ho := C.hoff
  have f0 : (off == 0) = true := by rw [beq_iff_eq]; omega
  have Hc := Lib.hid hc
  clear h C hx ho hc
  unfold tmV
  go_enter Tryz.func130, Tryz.ntmps130
  go_wp2_with fail
  go_at_call 154
  refine (locabs_any te na off Z (by have := HC.out.hte; omega) HC.out.te1 HC.out.te0 (by rw [HC.out.hoff]; exact HC.out.ok.off1) (by rw [HC.out.hoff]; exact HC.out.ok.off) _).mono ?_
  rintro r w ⟨A, rfl, hA, hb1⟩
  have HA := Lib.hid hA
  clear hA
  have hb0 : Below (w0.heap.size + 1) (w0.alloc (.cells #[.int .i64 te, .int .i32 na, .string Z, .int .i64 off] 96)) w := hb1.mono (by simp)
  have hb2 : Below w0.heap.size w0 w := ((Below.refl _ w0).alloc (Nat.le_refl _) _).trans (hb0.mono (by omega))
  have Hb := Lib.hid (H.out.below hb2)
  have Hb0 := Lib.hid hb0
  have Hgw := Lib.hid (Gw.of_below (v := v) hb2)
  have hB : B ≤ w.heap.size := by have := hb2.size; have := HC.out.hB; omega
  clear hb1 hb0 hb2
  go_wp2_with fail
  go_at_call 155
  refine (absDays_any t A (by rw [HA.out, HC.out.hte]) HC.out.t2 _).mono ?_
  rintro r w' ⟨D, rfl, hD, rfl⟩
  have HD := Lib.hid hD
  clear hD
  go_wp2_with fail
  go_at_call 156
  refine (date_any (t / 86400 + 306) D HD.out (by have := HC.out.t2; omega) _).mono ?_
  rintro r w' ⟨y, mo, d, rfl, h1, h2, h3, rfl⟩
  have HR := Lib.hid (show y = (m.y : Int) ∧ mo = (m.mo : Int) ∧ d = (m.d : Int) by (rw [HC.out.hmo]; exact ⟨h1, h2, h3⟩))
  clear h1 h2 h3
  have n1 := Lib.hid (show m.y < 10000 by have := Hm.out.y; have := Hm.out.mo; have := Hm.out.mo1; have := Hm.out.d; have := Hm.out.d1; have := Hm.out.yd; have := Hm.out.yd1; have := Hm.out.wd; have := Hm.out.h; have := Hm.out.mi; have := Hm.out.s; omega)
  have n2 := Lib.hid (show m.mo < 100 by have := Hm.out.y; have := Hm.out.mo; have := Hm.out.mo1; have := Hm.out.d; have := Hm.out.d1; have := Hm.out.yd; have := Hm.out.yd1; have := Hm.out.wd; have := Hm.out.h; have := Hm.out.mi; have := Hm.out.s; omega)
  have n3 := Lib.hid (show m.d < 100 by have := Hm.out.y; have := Hm.out.mo; have := Hm.out.mo1; have := Hm.out.d; have := Hm.out.d1; have := Hm.out.yd; have := Hm.out.yd1; have := Hm.out.wd; have := Hm.out.h; have := Hm.out.mi; have := Hm.out.s; omega)
  have n4 := Lib.hid (show m.h < 100 by have := Hm.out.y; have := Hm.out.mo; have := Hm.out.mo1; have := Hm.out.d; have := Hm.out.d1; have := Hm.out.yd; have := Hm.out.yd1; have := Hm.out.wd; have := Hm.out.h; have := Hm.out.mi; have := Hm.out.s; omega)
  have n5 := Lib.hid (show m.mi < 100 by have := Hm.out.y; have := Hm.out.mo; have := Hm.out.mo1; have := Hm.out.d; have := Hm.out.d1; have := Hm.out.yd; have := Hm.out.yd1; have := Hm.out.wd; have := Hm.out.h; have := Hm.out.mi; have := Hm.out.s; omega)
  have n6 := Lib.hid (show m.s < 100 by have := Hm.out.y; have := Hm.out.mo; have := Hm.out.mo1; have := Hm.out.d; have := Hm.out.d1; have := Hm.out.yd; have := Hm.out.yd1; have := Hm.out.wd; have := Hm.out.h; have := Hm.out.mi; have := Hm.out.s; omega)
  have Hg0 := Lib.hid (Gw.refl v w)
  go_wp2_with fail
  go_at_call 157
  refine (aint 4 (m.y) (y) HR.out.1 _ Hb.out (.inr (.inl ⟨rfl, n1.out⟩)) (by have := hx'.out; omega) hB).mono ?_
  rintro r w1 ⟨v1, rfl, hb1, hg1⟩
  have Hb1 := Lib.hid hb1
  have Hg1 := Lib.hid (Hg0.out.trans (hg1))
  have hB1 : B ≤ w1.heap.size := by have h1 := Hg1.out.1.size; omega
  clear hb1 hg1
  have HLy := Lib.hid (Ly.pad_length (k := 4) (a := m.y) (by decide) n1.out)
  go_wp2_with (at_builtin; refine wpList_append_br rfl _ _ rfl rfl (Hb1.out.alloc _) [45] ⟨w1.heap.size, 0, none⟩ 1 1 rfl rfl cells_one (by have := hx'.out; have := HLy.out; simp only [List.length_append, List.length_cons, List.length_nil]; omega) (by simp only [World.alloc, Array.size_push]; omega) ?_)
  intro v2 w2 hb2 hg2
  have Hb2 := Lib.hid (show BR B v2 ((xs ++ Ly.pad 4 (m.y)) ++ [45]) w2 by first | exact hb2 | (rw [List.append_assoc]; exact hb2) | simpa using hb2)
  have Hg2 := Lib.hid (Hg1.out.trans (((Gw.refl _ _).alloc _).trans hg2))
  have hB2 : B ≤ w2.heap.size := by have h1 := Hg2.out.1.size; omega
  clear hb2 hg2
  go_wp2_with fail
  go_at_call 157
  refine (aint 2 (m.mo) (mo) HR.out.2.1 _ Hb2.out (.inl ⟨rfl, n2.out⟩) (by have := hx'.out; have := HLy.out; simp only [List.length_append, List.length_cons, List.length_nil]; omega) hB2).mono ?_
  rintro r w3 ⟨v3, rfl, hb3, hg3⟩
  have Hb3 := Lib.hid (show BR B v3 (((xs ++ Ly.pad 4 (m.y)) ++ [45]) ++ Ly.pad 2 (m.mo)) w3 by first | exact hb3 | (rw [List.append_assoc]; exact hb3) | simpa using hb3)
  have Hg3 := Lib.hid (Hg2.out.trans (hg3))
  have hB3 : B ≤ w3.heap.size := by have h1 := Hg3.out.1.size; omega
  clear hb3 hg3
  have HL3 := Lib.hid (Ly.pad_length (k := 2) (a := m.mo) (by decide) n2.out)
  go_wp2_with (at_builtin; refine wpList_append_br rfl _ _ rfl rfl (Hb3.out.alloc _) [45] ⟨w3.heap.size, 0, none⟩ 1 1 rfl rfl cells_one (by have := hx'.out; have := HLy.out; have := HL3.out; simp only [List.length_append, List.length_cons, List.length_nil]; omega) (by simp only [World.alloc, Array.size_push]; omega) ?_)
  intro v4 w4 hb4 hg4
  have Hb4 := Lib.hid (show BR B v4 ((((xs ++ Ly.pad 4 (m.y)) ++ [45]) ++ Ly.pad 2 (m.mo)) ++ [45]) w4 by first | exact hb4 | (rw [List.append_assoc]; exact hb4) | simpa using hb4)
  have Hg4 := Lib.hid (Hg3.out.trans (((Gw.refl _ _).alloc _).trans hg4))
  have hB4 : B ≤ w4.heap.size := by have h1 := Hg4.out.1.size; omega
  clear hb4 hg4
  go_wp2_with fail
  go_at_call 157
  refine (aint 2 (m.d) (d) HR.out.2.2 _ Hb4.out (.inl ⟨rfl, n3.out⟩) (by have := hx'.out; have := HLy.out; have := HL3.out; simp only [List.length_append, List.length_cons, List.length_nil]; omega) hB4).mono ?_
  rintro r w5 ⟨v5, rfl, hb5, hg5⟩
  have Hb5 := Lib.hid (show BR B v5 (((((xs ++ Ly.pad 4 (m.y)) ++ [45]) ++ Ly.pad 2 (m.mo)) ++ [45]) ++ Ly.pad 2 (m.d)) w5 by first | exact hb5 | (rw [List.append_assoc]; exact hb5) | simpa using hb5)
  have Hg5 := Lib.hid (Hg4.out.trans (hg5))
  have hB5 : B ≤ w5.heap.size := by have h1 := Hg5.out.1.size; omega
  clear hb5 hg5
  have HL5 := Lib.hid (Ly.pad_length (k := 2) (a := m.d) (by decide) n3.out)
  go_wp2_with (at_builtin; refine wpList_append_br rfl _ _ rfl rfl (Hb5.out.alloc _) [84] ⟨w5.heap.size, 0, none⟩ 1 1 rfl rfl cells_one (by have := hx'.out; have := HLy.out; have := HL3.out; have := HL5.out; simp only [List.length_append, List.length_cons, List.length_nil]; omega) (by simp only [World.alloc, Array.size_push]; omega) ?_)
  intro v6 w6 hb6 hg6
  have Hb6 := Lib.hid (show BR B v6 ((((((xs ++ Ly.pad 4 (m.y)) ++ [45]) ++ Ly.pad 2 (m.mo)) ++ [45]) ++ Ly.pad 2 (m.d)) ++ [84]) w6 by first | exact hb6 | (rw [List.append_assoc]; exact hb6) | simpa using hb6)
  have Hg6 := Lib.hid (Hg5.out.trans (((Gw.refl _ _).alloc _).trans hg6))
  have hB6 : B ≤ w6.heap.size := by have h1 := Hg6.out.1.size; omega
  clear hb6 hg6
  go_wp2_with fail
  go_at_call 158
  refine (clock_any t A (by rw [HA.out, HC.out.hte]) HC.out.t2 _).mono ?_
  rintro r w' ⟨hh, mi, s, rfl, h1, h2, h3, rfl⟩
  have HS := Lib.hid (show hh = (m.h : Int) ∧ mi = (m.mi : Int) ∧ s = (m.s : Int) by (rw [HC.out.hmo]; exact ⟨h1, h2, h3⟩))
  clear h1 h2 h3
  go_wp2_with fail
  go_at_call 157
  refine (aint 2 (m.h) (hh) HS.out.1 _ Hb6.out (.inl ⟨rfl, n4.out⟩) (by have := hx'.out; have := HLy.out; have := HL3.out; have := HL5.out; simp only [List.length_append, List.length_cons, List.length_nil]; omega) hB6).mono ?_
  rintro r w7 ⟨v7, rfl, hb7, hg7⟩
  have Hb7 := Lib.hid (show BR B v7 (((((((xs ++ Ly.pad 4 (m.y)) ++ [45]) ++ Ly.pad 2 (m.mo)) ++ [45]) ++ Ly.pad 2 (m.d)) ++ [84]) ++ Ly.pad 2 (m.h)) w7 by first | exact hb7 | (rw [List.append_assoc]; exact hb7) | simpa using hb7)
  have Hg7 := Lib.hid (Hg6.out.trans (hg7))
  have hB7 : B ≤ w7.heap.size := by have h1 := Hg7.out.1.size; omega
  clear hb7 hg7
  have HL7 := Lib.hid (Ly.pad_length (k := 2) (a := m.h) (by decide) n4.out)
  go_wp2_with (at_builtin; refine wpList_append_br rfl _ _ rfl rfl (Hb7.out.alloc _) [58] ⟨w7.heap.size, 0, none⟩ 1 1 rfl rfl cells_one (by have := hx'.out; have := HLy.out; have := HL3.out; have := HL5.out; have := HL7.out; simp only [List.length_append, List.length_cons, List.length_nil]; omega) (by simp only [World.alloc, Array.size_push]; omega) ?_)
  intro v8 w8 hb8 hg8
  have Hb8 := Lib.hid (show BR B v8 ((((((((xs ++ Ly.pad 4 (m.y)) ++ [45]) ++ Ly.pad 2 (m.mo)) ++ [45]) ++ Ly.pad 2 (m.d)) ++ [84]) ++ Ly.pad 2 (m.h)) ++ [58]) w8 by first | exact hb8 | (rw [List.append_assoc]; exact hb8) | simpa using hb8)
  have Hg8 := Lib.hid (Hg7.out.trans (((Gw.refl _ _).alloc _).trans hg8))
  have hB8 : B ≤ w8.heap.size := by have h1 := Hg8.out.1.size; omega
  clear hb8 hg8
  go_wp2_with fail
  go_at_call 157
  refine (aint 2 (m.mi) (mi) HS.out.2.1 _ Hb8.out (.inl ⟨rfl, n5.out⟩) (by have := hx'.out; have := HLy.out; have := HL3.out; have := HL5.out; have := HL7.out; simp only [List.length_append, List.length_cons, List.length_nil]; omega) hB8).mono ?_
  rintro r w9 ⟨v9, rfl, hb9, hg9⟩
  have Hb9 := Lib.hid (show BR B v9 (((((((((xs ++ Ly.pad 4 (m.y)) ++ [45]) ++ Ly.pad 2 (m.mo)) ++ [45]) ++ Ly.pad 2 (m.d)) ++ [84]) ++ Ly.pad 2 (m.h)) ++ [58]) ++ Ly.pad 2 (m.mi)) w9 by first | exact hb9 | (rw [List.append_assoc]; exact hb9) | simpa using hb9)
  have Hg9 := Lib.hid (Hg8.out.trans (hg9))
  have hB9 : B ≤ w9.heap.size := by have h1 := Hg9.out.1.size; omega
  clear hb9 hg9
  have HL9 := Lib.hid (Ly.pad_length (k := 2) (a := m.mi) (by decide) n5.out)
  go_wp2_with (at_builtin; refine wpList_append_br rfl _ _ rfl rfl (Hb9.out.alloc _) [58] ⟨w9.heap.size, 0, none⟩ 1 1 rfl rfl cells_one (by have := hx'.out; have := HLy.out; have := HL3.out; have := HL5.out; have := HL7.out; have := HL9.out; simp only [List.length_append, List.length_cons, List.length_nil]; omega) (by simp only [World.alloc, Array.size_push]; omega) ?_)
  intro v10 w10 hb10 hg10
  have Hb10 := Lib.hid (show BR B v10 ((((((((((xs ++ Ly.pad 4 (m.y)) ++ [45]) ++ Ly.pad 2 (m.mo)) ++ [45]) ++ Ly.pad 2 (m.d)) ++ [84]) ++ Ly.pad 2 (m.h)) ++ [58]) ++ Ly.pad 2 (m.mi)) ++ [58]) w10 by first | exact hb10 | (rw [List.append_assoc]; exact hb10) | simpa using hb10)
  have Hg10 := Lib.hid (Hg9.out.trans (((Gw.refl _ _).alloc _).trans hg10))
  have hB10 : B ≤ w10.heap.size := by have h1 := Hg10.out.1.size; omega
  clear hb10 hg10
  go_wp2_with fail
  go_at_call 157
  refine (aint 2 (m.s) (s) HS.out.2.2 _ Hb10.out (.inl ⟨rfl, n6.out⟩) (by have := hx'.out; have := HLy.out; have := HL3.out; have := HL5.out; have := HL7.out; have := HL9.out; simp only [List.length_append, List.length_cons, List.length_nil]; omega) hB10).mono ?_
  rintro r w11 ⟨v11, rfl, hb11, hg11⟩
  have Hb11 := Lib.hid (show BR B v11 (((((((((((xs ++ Ly.pad 4 (m.y)) ++ [45]) ++ Ly.pad 2 (m.mo)) ++ [45]) ++ Ly.pad 2 (m.d)) ++ [84]) ++ Ly.pad 2 (m.h)) ++ [58]) ++ Ly.pad 2 (m.mi)) ++ [58]) ++ Ly.pad 2 (m.s)) w11 by first | exact hb11 | (rw [List.append_assoc]; exact hb11) | simpa using hb11)
  have Hg11 := Lib.hid (Hg10.out.trans (hg11))
  have hB11 : B ≤ w11.heap.size := by have h1 := Hg11.out.1.size; omega
  clear hb11 hg11
  have HL11 := Lib.hid (Ly.pad_length (k := 2) (a := m.s) (by decide) n6.out)
  have HK := Lib.hid ((HC.out.ctx rfl Hb0.out HA.out HD.out).gw (fun k hk => ⟨(H.out.lt k hk).1, by have := (H.out.lt k hk).2; omega⟩) Hg11.out)
  have c0 := HK.out.c0
  have c1 := HK.out.c1
  have c2 := HK.out.c2
  have c3 := HK.out.c3
  have na0 : 0 ≤ na := by have := HC.out.hna; omega
  have na1 : na < 1000000000 := by have := HC.out.hna; have := Hm.out.na; omega
  have hfr := fun W => frac_any 46 57 9 35 rfl (.inl rfl) (by decide) W
  have Hfr := Lib.hid hfr
  clear hfr
  go_wp2_with fail
  go_at_call 159
  refine (Hfr.out _).mono ?_
  rintro r w' ⟨rfl, rfl⟩
  go_wp2_with fail
  go_at_call 161
  refine (nano_any te na off Z na0 na1 _).mono ?_
  rintro r wn ⟨rfl, hwn⟩
  have Hwn := Lib.hid hwn
  have hBn : B ≤ wn.heap.size := by have := hwn.size; omega
  clear hwn
  go_wp2_with fail
  go_at_call 160
  refine (nano35 fr_nano m.na na HC.out.hna Hm.out.na _ (Hb11.out.below Hwn.out) (by have := hx'.out; have := HLy.out; have := HL3.out; have := HL5.out; have := HL7.out; have := HL9.out; have := HL11.out; (try simp only [List.length_append, List.length_cons, List.length_nil]); omega) hBn).mono ?_; rintro r w12 ⟨v12, rfl, hb12, hgn⟩
  have hg12 := (Gw.of_below (v := v11) Hwn.out).trans hgn
  have HLn := Lib.hid (Ly.fracT_len 46 9 ((35 : Int) == 35) m.na (by have := Hm.out.na; omega))
  clear hgn
  have Hb12 := Lib.hid (show BR B v12 ((((((((((((xs ++ Ly.pad 4 (m.y)) ++ [45]) ++ Ly.pad 2 (m.mo)) ++ [45]) ++ Ly.pad 2 (m.d)) ++ [84]) ++ Ly.pad 2 (m.h)) ++ [58]) ++ Ly.pad 2 (m.mi)) ++ [58]) ++ Ly.pad 2 (m.s)) ++ Ly.fracT 46 9 ((35 : Int) == 35) m.na) w12 by first | exact hb12 | (rw [List.append_assoc]; exact hb12) | simpa using hb12)
  have Hg12 := Lib.hid (Hg11.out.trans (hg12))
  have hB12 : B ≤ w12.heap.size := by have h1 := Hg12.out.1.size; omega
  clear hb12 hg12
  go_wp2_with (at_builtin; refine wpList_append_br rfl _ _ rfl rfl (Hb12.out.alloc _) [90] ⟨w12.heap.size, 0, none⟩ 1 1 rfl rfl cells_one (by have := hx'.out; have := HLy.out; have := HL3.out; have := HL5.out; have := HL7.out; have := HL9.out; have := HL11.out; have := HLn.out; simp only [List.length_append, List.length_cons, List.length_nil]; omega) (by simp only [World.alloc, Array.size_push]; omega) ?_)
  intro v13 w13 hb13 hg13
  have Hb13 := Lib.hid (show BR B v13 (((((((((((((xs ++ Ly.pad 4 (m.y)) ++ [45]) ++ Ly.pad 2 (m.mo)) ++ [45]) ++ Ly.pad 2 (m.d)) ++ [84]) ++ Ly.pad 2 (m.h)) ++ [58]) ++ Ly.pad 2 (m.mi)) ++ [58]) ++ Ly.pad 2 (m.s)) ++ Ly.fracT 46 9 ((35 : Int) == 35) m.na) ++ [90]) w13 by first | exact hb13 | (rw [List.append_assoc]; exact hb13) | simpa using hb13)
  have Hg13 := Lib.hid (Hg12.out.trans (((Gw.refl _ _).alloc _).trans hg13))
  have hB13 : B ≤ w13.heap.size := by have h1 := Hg13.out.1.size; omega
  clear hb13 hg13
  go_wp2
  go_ret
  exact ⟨v13, rfl, (by have ht : xs ++ Ly.lay (Ly.txt m) rfcn = (((((((((((((xs ++ Ly.pad 4 (m.y)) ++ [45]) ++ Ly.pad 2 (m.mo)) ++ [45]) ++ Ly.pad 2 (m.d)) ++ [84]) ++ Ly.pad 2 (m.h)) ++ [58]) ++ Ly.pad 2 (m.mi)) ++ [58]) ++ Ly.pad 2 (m.s)) ++ Ly.fracT 46 9 ((35 : Int) == 35) m.na) ++ [90]) := (by rw [rfcn_txt]; rw [if_pos Hc.out]; simp); rw [ht]; exact Hb13.out), Hgw.out.trans Hg13.out⟩

set_option maxRecDepth 100000 in
set_option maxHeartbeats 8000000 in
theorem rfc1_neg {B : Nat} {v : Value} {xs : List UInt8} (Z : ByteArray) (te na off : Int) (m : Ly.Mo) (t : Nat) (w0 : World) (h : BR B v xs w0) (C : TmCtx B Z off te na m t w0) (hx : xs.length ≤ 1000) (hc : m.off < 0) :
    Calls Tryz.prog 130 #[tmV te na Z off, v, .bool true] w0 (BrPost B v (xs ++ Ly.lay (Ly.txt m) rfcn) w0) := by
  have H := Lib.hid h
  have HC := Lib.hid C
  have Hm := Lib.hid C.ok
  have hx' := Lib.hid hx
  have ho := C.hoff
  have f0 : (off == 0) = false := by rw [beq_eq_false_iff_ne]; omega
  have HO := Lib.hid ho
  have H60 := Lib.hid Hm.out.off60
  obtain ⟨zp, hzp⟩ : ∃ zp : Int, zp = ((m.off.natAbs / 60 : Nat) : Int) := ⟨_, rfl⟩
  have zp0 : 1 ≤ zp := by have := Hm.out.off60; omega
  have zp1 : zp ≤ 1440 := by have := Hm.out.off1; have := Hm.out.off; omega
  have ho0 : off < 0 := by omega
  have hq1 : off.tdiv 60 = -zp := by rw [tdiv_below (by omega)]; have := Hm.out.off60; omega
  have o1 : -86400 < off := by have := Hm.out.off1; omega
  have HX3 := Lib.hid (show -off.tmod 60 = ((m.off.natAbs % 60 : Nat) : Int) by rw [Int.tmod_eq_zero_of_dvd (Int.dvd_of_emod_eq_zero (show off % 60 = 0 by rw [ho]; exact Hm.out.off60))]; have := Hm.out.off60; omega)
  have HX1 := Lib.hid (show zp / 60 = ((m.off.natAbs / 3600 : Nat) : Int) by omega)
  have HX2 := Lib.hid (show zp % 60 = ((m.off.natAbs / 60 % 60 : Nat) : Int) by omega)
  have hn1 := Lib.hid (show m.off.natAbs / 3600 < 100 by have := Hm.out.off1; have := Hm.out.off; omega)
  have hn2 := Lib.hid (show m.off.natAbs / 60 % 60 < 100 by omega)
  have hn3 := Lib.hid (show m.off.natAbs % 60 < 100 by omega)
  have Hc := Lib.hid hc
  clear h C hx ho hc hzp
  unfold tmV
  go_enter Tryz.func130, Tryz.ntmps130
  go_wp2_with fail
  go_at_call 154
  refine (locabs_any te na off Z (by have := HC.out.hte; omega) HC.out.te1 HC.out.te0 (by rw [HC.out.hoff]; exact HC.out.ok.off1) (by rw [HC.out.hoff]; exact HC.out.ok.off) _).mono ?_
  rintro r w ⟨A, rfl, hA, hb1⟩
  have HA := Lib.hid hA
  clear hA
  have hb0 : Below (w0.heap.size + 1) (w0.alloc (.cells #[.int .i64 te, .int .i32 na, .string Z, .int .i64 off] 96)) w := hb1.mono (by simp)
  have hb2 : Below w0.heap.size w0 w := ((Below.refl _ w0).alloc (Nat.le_refl _) _).trans (hb0.mono (by omega))
  have Hb := Lib.hid (H.out.below hb2)
  have Hb0 := Lib.hid hb0
  have Hgw := Lib.hid (Gw.of_below (v := v) hb2)
  have hB : B ≤ w.heap.size := by have := hb2.size; have := HC.out.hB; omega
  clear hb1 hb0 hb2
  go_wp2_with fail
  go_at_call 155
  refine (absDays_any t A (by rw [HA.out, HC.out.hte]) HC.out.t2 _).mono ?_
  rintro r w' ⟨D, rfl, hD, rfl⟩
  have HD := Lib.hid hD
  clear hD
  go_wp2_with fail
  go_at_call 156
  refine (date_any (t / 86400 + 306) D HD.out (by have := HC.out.t2; omega) _).mono ?_
  rintro r w' ⟨y, mo, d, rfl, h1, h2, h3, rfl⟩
  have HR := Lib.hid (show y = (m.y : Int) ∧ mo = (m.mo : Int) ∧ d = (m.d : Int) by (rw [HC.out.hmo]; exact ⟨h1, h2, h3⟩))
  clear h1 h2 h3
  have n1 := Lib.hid (show m.y < 10000 by have := Hm.out.y; have := Hm.out.mo; have := Hm.out.mo1; have := Hm.out.d; have := Hm.out.d1; have := Hm.out.yd; have := Hm.out.yd1; have := Hm.out.wd; have := Hm.out.h; have := Hm.out.mi; have := Hm.out.s; omega)
  have n2 := Lib.hid (show m.mo < 100 by have := Hm.out.y; have := Hm.out.mo; have := Hm.out.mo1; have := Hm.out.d; have := Hm.out.d1; have := Hm.out.yd; have := Hm.out.yd1; have := Hm.out.wd; have := Hm.out.h; have := Hm.out.mi; have := Hm.out.s; omega)
  have n3 := Lib.hid (show m.d < 100 by have := Hm.out.y; have := Hm.out.mo; have := Hm.out.mo1; have := Hm.out.d; have := Hm.out.d1; have := Hm.out.yd; have := Hm.out.yd1; have := Hm.out.wd; have := Hm.out.h; have := Hm.out.mi; have := Hm.out.s; omega)
  have n4 := Lib.hid (show m.h < 100 by have := Hm.out.y; have := Hm.out.mo; have := Hm.out.mo1; have := Hm.out.d; have := Hm.out.d1; have := Hm.out.yd; have := Hm.out.yd1; have := Hm.out.wd; have := Hm.out.h; have := Hm.out.mi; have := Hm.out.s; omega)
  have n5 := Lib.hid (show m.mi < 100 by have := Hm.out.y; have := Hm.out.mo; have := Hm.out.mo1; have := Hm.out.d; have := Hm.out.d1; have := Hm.out.yd; have := Hm.out.yd1; have := Hm.out.wd; have := Hm.out.h; have := Hm.out.mi; have := Hm.out.s; omega)
  have n6 := Lib.hid (show m.s < 100 by have := Hm.out.y; have := Hm.out.mo; have := Hm.out.mo1; have := Hm.out.d; have := Hm.out.d1; have := Hm.out.yd; have := Hm.out.yd1; have := Hm.out.wd; have := Hm.out.h; have := Hm.out.mi; have := Hm.out.s; omega)
  have Hg0 := Lib.hid (Gw.refl v w)
  go_wp2_with fail
  go_at_call 157
  refine (aint 4 (m.y) (y) HR.out.1 _ Hb.out (.inr (.inl ⟨rfl, n1.out⟩)) (by have := hx'.out; omega) hB).mono ?_
  rintro r w1 ⟨v1, rfl, hb1, hg1⟩
  have Hb1 := Lib.hid hb1
  have Hg1 := Lib.hid (Hg0.out.trans (hg1))
  have hB1 : B ≤ w1.heap.size := by have h1 := Hg1.out.1.size; omega
  clear hb1 hg1
  have HLy := Lib.hid (Ly.pad_length (k := 4) (a := m.y) (by decide) n1.out)
  go_wp2_with (at_builtin; refine wpList_append_br rfl _ _ rfl rfl (Hb1.out.alloc _) [45] ⟨w1.heap.size, 0, none⟩ 1 1 rfl rfl cells_one (by have := hx'.out; have := HLy.out; simp only [List.length_append, List.length_cons, List.length_nil]; omega) (by simp only [World.alloc, Array.size_push]; omega) ?_)
  intro v2 w2 hb2 hg2
  have Hb2 := Lib.hid (show BR B v2 ((xs ++ Ly.pad 4 (m.y)) ++ [45]) w2 by first | exact hb2 | (rw [List.append_assoc]; exact hb2) | simpa using hb2)
  have Hg2 := Lib.hid (Hg1.out.trans (((Gw.refl _ _).alloc _).trans hg2))
  have hB2 : B ≤ w2.heap.size := by have h1 := Hg2.out.1.size; omega
  clear hb2 hg2
  go_wp2_with fail
  go_at_call 157
  refine (aint 2 (m.mo) (mo) HR.out.2.1 _ Hb2.out (.inl ⟨rfl, n2.out⟩) (by have := hx'.out; have := HLy.out; simp only [List.length_append, List.length_cons, List.length_nil]; omega) hB2).mono ?_
  rintro r w3 ⟨v3, rfl, hb3, hg3⟩
  have Hb3 := Lib.hid (show BR B v3 (((xs ++ Ly.pad 4 (m.y)) ++ [45]) ++ Ly.pad 2 (m.mo)) w3 by first | exact hb3 | (rw [List.append_assoc]; exact hb3) | simpa using hb3)
  have Hg3 := Lib.hid (Hg2.out.trans (hg3))
  have hB3 : B ≤ w3.heap.size := by have h1 := Hg3.out.1.size; omega
  clear hb3 hg3
  have HL3 := Lib.hid (Ly.pad_length (k := 2) (a := m.mo) (by decide) n2.out)
  go_wp2_with (at_builtin; refine wpList_append_br rfl _ _ rfl rfl (Hb3.out.alloc _) [45] ⟨w3.heap.size, 0, none⟩ 1 1 rfl rfl cells_one (by have := hx'.out; have := HLy.out; have := HL3.out; simp only [List.length_append, List.length_cons, List.length_nil]; omega) (by simp only [World.alloc, Array.size_push]; omega) ?_)
  intro v4 w4 hb4 hg4
  have Hb4 := Lib.hid (show BR B v4 ((((xs ++ Ly.pad 4 (m.y)) ++ [45]) ++ Ly.pad 2 (m.mo)) ++ [45]) w4 by first | exact hb4 | (rw [List.append_assoc]; exact hb4) | simpa using hb4)
  have Hg4 := Lib.hid (Hg3.out.trans (((Gw.refl _ _).alloc _).trans hg4))
  have hB4 : B ≤ w4.heap.size := by have h1 := Hg4.out.1.size; omega
  clear hb4 hg4
  go_wp2_with fail
  go_at_call 157
  refine (aint 2 (m.d) (d) HR.out.2.2 _ Hb4.out (.inl ⟨rfl, n3.out⟩) (by have := hx'.out; have := HLy.out; have := HL3.out; simp only [List.length_append, List.length_cons, List.length_nil]; omega) hB4).mono ?_
  rintro r w5 ⟨v5, rfl, hb5, hg5⟩
  have Hb5 := Lib.hid (show BR B v5 (((((xs ++ Ly.pad 4 (m.y)) ++ [45]) ++ Ly.pad 2 (m.mo)) ++ [45]) ++ Ly.pad 2 (m.d)) w5 by first | exact hb5 | (rw [List.append_assoc]; exact hb5) | simpa using hb5)
  have Hg5 := Lib.hid (Hg4.out.trans (hg5))
  have hB5 : B ≤ w5.heap.size := by have h1 := Hg5.out.1.size; omega
  clear hb5 hg5
  have HL5 := Lib.hid (Ly.pad_length (k := 2) (a := m.d) (by decide) n3.out)
  go_wp2_with (at_builtin; refine wpList_append_br rfl _ _ rfl rfl (Hb5.out.alloc _) [84] ⟨w5.heap.size, 0, none⟩ 1 1 rfl rfl cells_one (by have := hx'.out; have := HLy.out; have := HL3.out; have := HL5.out; simp only [List.length_append, List.length_cons, List.length_nil]; omega) (by simp only [World.alloc, Array.size_push]; omega) ?_)
  intro v6 w6 hb6 hg6
  have Hb6 := Lib.hid (show BR B v6 ((((((xs ++ Ly.pad 4 (m.y)) ++ [45]) ++ Ly.pad 2 (m.mo)) ++ [45]) ++ Ly.pad 2 (m.d)) ++ [84]) w6 by first | exact hb6 | (rw [List.append_assoc]; exact hb6) | simpa using hb6)
  have Hg6 := Lib.hid (Hg5.out.trans (((Gw.refl _ _).alloc _).trans hg6))
  have hB6 : B ≤ w6.heap.size := by have h1 := Hg6.out.1.size; omega
  clear hb6 hg6
  go_wp2_with fail
  go_at_call 158
  refine (clock_any t A (by rw [HA.out, HC.out.hte]) HC.out.t2 _).mono ?_
  rintro r w' ⟨hh, mi, s, rfl, h1, h2, h3, rfl⟩
  have HS := Lib.hid (show hh = (m.h : Int) ∧ mi = (m.mi : Int) ∧ s = (m.s : Int) by (rw [HC.out.hmo]; exact ⟨h1, h2, h3⟩))
  clear h1 h2 h3
  go_wp2_with fail
  go_at_call 157
  refine (aint 2 (m.h) (hh) HS.out.1 _ Hb6.out (.inl ⟨rfl, n4.out⟩) (by have := hx'.out; have := HLy.out; have := HL3.out; have := HL5.out; simp only [List.length_append, List.length_cons, List.length_nil]; omega) hB6).mono ?_
  rintro r w7 ⟨v7, rfl, hb7, hg7⟩
  have Hb7 := Lib.hid (show BR B v7 (((((((xs ++ Ly.pad 4 (m.y)) ++ [45]) ++ Ly.pad 2 (m.mo)) ++ [45]) ++ Ly.pad 2 (m.d)) ++ [84]) ++ Ly.pad 2 (m.h)) w7 by first | exact hb7 | (rw [List.append_assoc]; exact hb7) | simpa using hb7)
  have Hg7 := Lib.hid (Hg6.out.trans (hg7))
  have hB7 : B ≤ w7.heap.size := by have h1 := Hg7.out.1.size; omega
  clear hb7 hg7
  have HL7 := Lib.hid (Ly.pad_length (k := 2) (a := m.h) (by decide) n4.out)
  go_wp2_with (at_builtin; refine wpList_append_br rfl _ _ rfl rfl (Hb7.out.alloc _) [58] ⟨w7.heap.size, 0, none⟩ 1 1 rfl rfl cells_one (by have := hx'.out; have := HLy.out; have := HL3.out; have := HL5.out; have := HL7.out; simp only [List.length_append, List.length_cons, List.length_nil]; omega) (by simp only [World.alloc, Array.size_push]; omega) ?_)
  intro v8 w8 hb8 hg8
  have Hb8 := Lib.hid (show BR B v8 ((((((((xs ++ Ly.pad 4 (m.y)) ++ [45]) ++ Ly.pad 2 (m.mo)) ++ [45]) ++ Ly.pad 2 (m.d)) ++ [84]) ++ Ly.pad 2 (m.h)) ++ [58]) w8 by first | exact hb8 | (rw [List.append_assoc]; exact hb8) | simpa using hb8)
  have Hg8 := Lib.hid (Hg7.out.trans (((Gw.refl _ _).alloc _).trans hg8))
  have hB8 : B ≤ w8.heap.size := by have h1 := Hg8.out.1.size; omega
  clear hb8 hg8
  go_wp2_with fail
  go_at_call 157
  refine (aint 2 (m.mi) (mi) HS.out.2.1 _ Hb8.out (.inl ⟨rfl, n5.out⟩) (by have := hx'.out; have := HLy.out; have := HL3.out; have := HL5.out; have := HL7.out; simp only [List.length_append, List.length_cons, List.length_nil]; omega) hB8).mono ?_
  rintro r w9 ⟨v9, rfl, hb9, hg9⟩
  have Hb9 := Lib.hid (show BR B v9 (((((((((xs ++ Ly.pad 4 (m.y)) ++ [45]) ++ Ly.pad 2 (m.mo)) ++ [45]) ++ Ly.pad 2 (m.d)) ++ [84]) ++ Ly.pad 2 (m.h)) ++ [58]) ++ Ly.pad 2 (m.mi)) w9 by first | exact hb9 | (rw [List.append_assoc]; exact hb9) | simpa using hb9)
  have Hg9 := Lib.hid (Hg8.out.trans (hg9))
  have hB9 : B ≤ w9.heap.size := by have h1 := Hg9.out.1.size; omega
  clear hb9 hg9
  have HL9 := Lib.hid (Ly.pad_length (k := 2) (a := m.mi) (by decide) n5.out)
  go_wp2_with (at_builtin; refine wpList_append_br rfl _ _ rfl rfl (Hb9.out.alloc _) [58] ⟨w9.heap.size, 0, none⟩ 1 1 rfl rfl cells_one (by have := hx'.out; have := HLy.out; have := HL3.out; have := HL5.out; have := HL7.out; have := HL9.out; simp only [List.length_append, List.length_cons, List.length_nil]; omega) (by simp only [World.alloc, Array.size_push]; omega) ?_)
  intro v10 w10 hb10 hg10
  have Hb10 := Lib.hid (show BR B v10 ((((((((((xs ++ Ly.pad 4 (m.y)) ++ [45]) ++ Ly.pad 2 (m.mo)) ++ [45]) ++ Ly.pad 2 (m.d)) ++ [84]) ++ Ly.pad 2 (m.h)) ++ [58]) ++ Ly.pad 2 (m.mi)) ++ [58]) w10 by first | exact hb10 | (rw [List.append_assoc]; exact hb10) | simpa using hb10)
  have Hg10 := Lib.hid (Hg9.out.trans (((Gw.refl _ _).alloc _).trans hg10))
  have hB10 : B ≤ w10.heap.size := by have h1 := Hg10.out.1.size; omega
  clear hb10 hg10
  go_wp2_with fail
  go_at_call 157
  refine (aint 2 (m.s) (s) HS.out.2.2 _ Hb10.out (.inl ⟨rfl, n6.out⟩) (by have := hx'.out; have := HLy.out; have := HL3.out; have := HL5.out; have := HL7.out; have := HL9.out; simp only [List.length_append, List.length_cons, List.length_nil]; omega) hB10).mono ?_
  rintro r w11 ⟨v11, rfl, hb11, hg11⟩
  have Hb11 := Lib.hid (show BR B v11 (((((((((((xs ++ Ly.pad 4 (m.y)) ++ [45]) ++ Ly.pad 2 (m.mo)) ++ [45]) ++ Ly.pad 2 (m.d)) ++ [84]) ++ Ly.pad 2 (m.h)) ++ [58]) ++ Ly.pad 2 (m.mi)) ++ [58]) ++ Ly.pad 2 (m.s)) w11 by first | exact hb11 | (rw [List.append_assoc]; exact hb11) | simpa using hb11)
  have Hg11 := Lib.hid (Hg10.out.trans (hg11))
  have hB11 : B ≤ w11.heap.size := by have h1 := Hg11.out.1.size; omega
  clear hb11 hg11
  have HL11 := Lib.hid (Ly.pad_length (k := 2) (a := m.s) (by decide) n6.out)
  have HK := Lib.hid ((HC.out.ctx rfl Hb0.out HA.out HD.out).gw (fun k hk => ⟨(H.out.lt k hk).1, by have := (H.out.lt k hk).2; omega⟩) Hg11.out)
  have c0 := HK.out.c0
  have c1 := HK.out.c1
  have c2 := HK.out.c2
  have c3 := HK.out.c3
  have na0 : 0 ≤ na := by have := HC.out.hna; omega
  have na1 : na < 1000000000 := by have := HC.out.hna; have := Hm.out.na; omega
  have hfr := fun W => frac_any 46 57 9 35 rfl (.inl rfl) (by decide) W
  have Hfr := Lib.hid hfr
  clear hfr
  go_wp2_with fail
  go_at_call 159
  refine (Hfr.out _).mono ?_
  rintro r w' ⟨rfl, rfl⟩
  go_wp2_with fail
  go_at_call 161
  refine (nano_any te na off Z na0 na1 _).mono ?_
  rintro r wn ⟨rfl, hwn⟩
  have Hwn := Lib.hid hwn
  have hBn : B ≤ wn.heap.size := by have := hwn.size; omega
  clear hwn
  go_wp2_with fail
  go_at_call 160
  refine (nano35 fr_nano m.na na HC.out.hna Hm.out.na _ (Hb11.out.below Hwn.out) (by have := hx'.out; have := HLy.out; have := HL3.out; have := HL5.out; have := HL7.out; have := HL9.out; have := HL11.out; (try simp only [List.length_append, List.length_cons, List.length_nil]); omega) hBn).mono ?_; rintro r w12 ⟨v12, rfl, hb12, hgn⟩
  have hg12 := (Gw.of_below (v := v11) Hwn.out).trans hgn
  have HLn := Lib.hid (Ly.fracT_len 46 9 ((35 : Int) == 35) m.na (by have := Hm.out.na; omega))
  clear hgn
  have Hb12 := Lib.hid (show BR B v12 ((((((((((((xs ++ Ly.pad 4 (m.y)) ++ [45]) ++ Ly.pad 2 (m.mo)) ++ [45]) ++ Ly.pad 2 (m.d)) ++ [84]) ++ Ly.pad 2 (m.h)) ++ [58]) ++ Ly.pad 2 (m.mi)) ++ [58]) ++ Ly.pad 2 (m.s)) ++ Ly.fracT 46 9 ((35 : Int) == 35) m.na) w12 by first | exact hb12 | (rw [List.append_assoc]; exact hb12) | simpa using hb12)
  have Hg12 := Lib.hid (Hg11.out.trans (hg12))
  have hB12 : B ≤ w12.heap.size := by have h1 := Hg12.out.1.size; omega
  clear hb12 hg12
  go_wp2_with (at_builtin; refine wpList_append_br rfl _ _ rfl rfl (Hb12.out.alloc _) [45] ⟨w12.heap.size, 0, none⟩ 1 1 rfl rfl cells_one (by have := hx'.out; have := HLy.out; have := HL3.out; have := HL5.out; have := HL7.out; have := HL9.out; have := HL11.out; have := HLn.out; simp only [List.length_append, List.length_cons, List.length_nil]; omega) (by simp only [World.alloc, Array.size_push]; omega) ?_)
  intro v13 w13 hb13 hg13
  have Hb13 := Lib.hid (show BR B v13 (((((((((((((xs ++ Ly.pad 4 (m.y)) ++ [45]) ++ Ly.pad 2 (m.mo)) ++ [45]) ++ Ly.pad 2 (m.d)) ++ [84]) ++ Ly.pad 2 (m.h)) ++ [58]) ++ Ly.pad 2 (m.mi)) ++ [58]) ++ Ly.pad 2 (m.s)) ++ Ly.fracT 46 9 ((35 : Int) == 35) m.na) ++ [45]) w13 by first | exact hb13 | (rw [List.append_assoc]; exact hb13) | simpa using hb13)
  have Hg13 := Lib.hid (Hg12.out.trans (((Gw.refl _ _).alloc _).trans hg13))
  have hB13 : B ≤ w13.heap.size := by have h1 := Hg13.out.1.size; omega
  clear hb13 hg13
  go_wp2_with fail
  go_at_call 157
  refine (aint 2 (m.off.natAbs / 3600) (zp / 60) HX1.out _ Hb13.out (.inl ⟨rfl, hn1.out⟩) (by have := hx'.out; have := HLy.out; have := HL3.out; have := HL5.out; have := HL7.out; have := HL9.out; have := HL11.out; have := HLn.out; simp only [List.length_append, List.length_cons, List.length_nil]; omega) hB13).mono ?_
  rintro r w14 ⟨v14, rfl, hb14, hg14⟩
  have Hb14 := Lib.hid (show BR B v14 ((((((((((((((xs ++ Ly.pad 4 (m.y)) ++ [45]) ++ Ly.pad 2 (m.mo)) ++ [45]) ++ Ly.pad 2 (m.d)) ++ [84]) ++ Ly.pad 2 (m.h)) ++ [58]) ++ Ly.pad 2 (m.mi)) ++ [58]) ++ Ly.pad 2 (m.s)) ++ Ly.fracT 46 9 ((35 : Int) == 35) m.na) ++ [45]) ++ Ly.pad 2 (m.off.natAbs / 3600)) w14 by first | exact hb14 | (rw [List.append_assoc]; exact hb14) | simpa using hb14)
  have Hg14 := Lib.hid (Hg13.out.trans (hg14))
  have hB14 : B ≤ w14.heap.size := by have h1 := Hg14.out.1.size; omega
  clear hb14 hg14
  have HL14 := Lib.hid (Ly.pad_length (k := 2) (a := m.off.natAbs / 3600) (by decide) hn1.out)
  go_wp2_with (at_builtin; refine wpList_append_br rfl _ _ rfl rfl (Hb14.out.alloc _) [58] ⟨w14.heap.size, 0, none⟩ 1 1 rfl rfl cells_one (by have := hx'.out; have := HLy.out; have := HL3.out; have := HL5.out; have := HL7.out; have := HL9.out; have := HL11.out; have := HLn.out; have := HL14.out; simp only [List.length_append, List.length_cons, List.length_nil]; omega) (by simp only [World.alloc, Array.size_push]; omega) ?_)
  intro v15 w15 hb15 hg15
  have Hb15 := Lib.hid (show BR B v15 (((((((((((((((xs ++ Ly.pad 4 (m.y)) ++ [45]) ++ Ly.pad 2 (m.mo)) ++ [45]) ++ Ly.pad 2 (m.d)) ++ [84]) ++ Ly.pad 2 (m.h)) ++ [58]) ++ Ly.pad 2 (m.mi)) ++ [58]) ++ Ly.pad 2 (m.s)) ++ Ly.fracT 46 9 ((35 : Int) == 35) m.na) ++ [45]) ++ Ly.pad 2 (m.off.natAbs / 3600)) ++ [58]) w15 by first | exact hb15 | (rw [List.append_assoc]; exact hb15) | simpa using hb15)
  have Hg15 := Lib.hid (Hg14.out.trans (((Gw.refl _ _).alloc _).trans hg15))
  have hB15 : B ≤ w15.heap.size := by have h1 := Hg15.out.1.size; omega
  clear hb15 hg15
  go_wp2_with fail
  go_at_call 157
  refine (aint 2 (m.off.natAbs / 60 % 60) (zp % 60) HX2.out _ Hb15.out (.inl ⟨rfl, hn2.out⟩) (by have := hx'.out; have := HLy.out; have := HL3.out; have := HL5.out; have := HL7.out; have := HL9.out; have := HL11.out; have := HLn.out; have := HL14.out; simp only [List.length_append, List.length_cons, List.length_nil]; omega) hB15).mono ?_
  rintro r w16 ⟨v16, rfl, hb16, hg16⟩
  have Hb16 := Lib.hid (show BR B v16 ((((((((((((((((xs ++ Ly.pad 4 (m.y)) ++ [45]) ++ Ly.pad 2 (m.mo)) ++ [45]) ++ Ly.pad 2 (m.d)) ++ [84]) ++ Ly.pad 2 (m.h)) ++ [58]) ++ Ly.pad 2 (m.mi)) ++ [58]) ++ Ly.pad 2 (m.s)) ++ Ly.fracT 46 9 ((35 : Int) == 35) m.na) ++ [45]) ++ Ly.pad 2 (m.off.natAbs / 3600)) ++ [58]) ++ Ly.pad 2 (m.off.natAbs / 60 % 60)) w16 by first | exact hb16 | (rw [List.append_assoc]; exact hb16) | simpa using hb16)
  have Hg16 := Lib.hid (Hg15.out.trans (hg16))
  have hB16 : B ≤ w16.heap.size := by have h1 := Hg16.out.1.size; omega
  clear hb16 hg16
  have HL16 := Lib.hid (Ly.pad_length (k := 2) (a := m.off.natAbs / 60 % 60) (by decide) hn2.out)
  go_wp2
  go_ret
  exact ⟨v16, rfl, (by have ht : xs ++ Ly.lay (Ly.txt m) rfcn = ((((((((((((((((xs ++ Ly.pad 4 (m.y)) ++ [45]) ++ Ly.pad 2 (m.mo)) ++ [45]) ++ Ly.pad 2 (m.d)) ++ [84]) ++ Ly.pad 2 (m.h)) ++ [58]) ++ Ly.pad 2 (m.mi)) ++ [58]) ++ Ly.pad 2 (m.s)) ++ Ly.fracT 46 9 ((35 : Int) == 35) m.na) ++ [45]) ++ Ly.pad 2 (m.off.natAbs / 3600)) ++ [58]) ++ Ly.pad 2 (m.off.natAbs / 60 % 60)) := (by rw [rfcn_txt]; rw [if_neg (by have := Hc.out; omega)]; unfold Ly.zn; rw [if_pos Hc.out]; simp); rw [ht]; exact Hb16.out), Hgw.out.trans Hg16.out⟩

set_option maxRecDepth 100000 in
set_option maxHeartbeats 8000000 in
theorem rfc1_pos {B : Nat} {v : Value} {xs : List UInt8} (Z : ByteArray) (te na off : Int) (m : Ly.Mo) (t : Nat) (w0 : World) (h : BR B v xs w0) (C : TmCtx B Z off te na m t w0) (hx : xs.length ≤ 1000) (hc : 0 < m.off) :
    Calls Tryz.prog 130 #[tmV te na Z off, v, .bool true] w0 (BrPost B v (xs ++ Ly.lay (Ly.txt m) rfcn) w0) := by
  have H := Lib.hid h
  have HC := Lib.hid C
  have Hm := Lib.hid C.ok
  have hx' := Lib.hid hx
  have ho := C.hoff
  have f0 : (off == 0) = false := by rw [beq_eq_false_iff_ne]; omega
  have HO := Lib.hid ho
  have H60 := Lib.hid Hm.out.off60
  obtain ⟨zp, hzp⟩ : ∃ zp : Int, zp = ((m.off.natAbs / 60 : Nat) : Int) := ⟨_, rfl⟩
  have zp0 : 0 ≤ zp := by have := Hm.out.off60; omega
  have zp1 : zp ≤ 1440 := by have := Hm.out.off1; have := Hm.out.off; omega
  have ho0 : 0 ≤ off := by omega
  have hq1 : off.tdiv 60 = zp := by rw [Int.tdiv_eq_ediv_of_nonneg (by omega)]; omega
  have hq2 : off / 60 = zp := by omega
  have o1 : off < 86400 := by have := Hm.out.off; omega
  have HX3 := Lib.hid (show off % 60 = ((m.off.natAbs % 60 : Nat) : Int) by omega)
  have HX1 := Lib.hid (show zp / 60 = ((m.off.natAbs / 3600 : Nat) : Int) by omega)
  have HX2 := Lib.hid (show zp % 60 = ((m.off.natAbs / 60 % 60 : Nat) : Int) by omega)
  have hn1 := Lib.hid (show m.off.natAbs / 3600 < 100 by have := Hm.out.off1; have := Hm.out.off; omega)
  have hn2 := Lib.hid (show m.off.natAbs / 60 % 60 < 100 by omega)
  have hn3 := Lib.hid (show m.off.natAbs % 60 < 100 by omega)
  have Hc := Lib.hid hc
  clear h C hx ho hc hzp
  unfold tmV
  go_enter Tryz.func130, Tryz.ntmps130
  go_wp2_with fail
  go_at_call 154
  refine (locabs_any te na off Z (by have := HC.out.hte; omega) HC.out.te1 HC.out.te0 (by rw [HC.out.hoff]; exact HC.out.ok.off1) (by rw [HC.out.hoff]; exact HC.out.ok.off) _).mono ?_
  rintro r w ⟨A, rfl, hA, hb1⟩
  have HA := Lib.hid hA
  clear hA
  have hb0 : Below (w0.heap.size + 1) (w0.alloc (.cells #[.int .i64 te, .int .i32 na, .string Z, .int .i64 off] 96)) w := hb1.mono (by simp)
  have hb2 : Below w0.heap.size w0 w := ((Below.refl _ w0).alloc (Nat.le_refl _) _).trans (hb0.mono (by omega))
  have Hb := Lib.hid (H.out.below hb2)
  have Hb0 := Lib.hid hb0
  have Hgw := Lib.hid (Gw.of_below (v := v) hb2)
  have hB : B ≤ w.heap.size := by have := hb2.size; have := HC.out.hB; omega
  clear hb1 hb0 hb2
  go_wp2_with fail
  go_at_call 155
  refine (absDays_any t A (by rw [HA.out, HC.out.hte]) HC.out.t2 _).mono ?_
  rintro r w' ⟨D, rfl, hD, rfl⟩
  have HD := Lib.hid hD
  clear hD
  go_wp2_with fail
  go_at_call 156
  refine (date_any (t / 86400 + 306) D HD.out (by have := HC.out.t2; omega) _).mono ?_
  rintro r w' ⟨y, mo, d, rfl, h1, h2, h3, rfl⟩
  have HR := Lib.hid (show y = (m.y : Int) ∧ mo = (m.mo : Int) ∧ d = (m.d : Int) by (rw [HC.out.hmo]; exact ⟨h1, h2, h3⟩))
  clear h1 h2 h3
  have n1 := Lib.hid (show m.y < 10000 by have := Hm.out.y; have := Hm.out.mo; have := Hm.out.mo1; have := Hm.out.d; have := Hm.out.d1; have := Hm.out.yd; have := Hm.out.yd1; have := Hm.out.wd; have := Hm.out.h; have := Hm.out.mi; have := Hm.out.s; omega)
  have n2 := Lib.hid (show m.mo < 100 by have := Hm.out.y; have := Hm.out.mo; have := Hm.out.mo1; have := Hm.out.d; have := Hm.out.d1; have := Hm.out.yd; have := Hm.out.yd1; have := Hm.out.wd; have := Hm.out.h; have := Hm.out.mi; have := Hm.out.s; omega)
  have n3 := Lib.hid (show m.d < 100 by have := Hm.out.y; have := Hm.out.mo; have := Hm.out.mo1; have := Hm.out.d; have := Hm.out.d1; have := Hm.out.yd; have := Hm.out.yd1; have := Hm.out.wd; have := Hm.out.h; have := Hm.out.mi; have := Hm.out.s; omega)
  have n4 := Lib.hid (show m.h < 100 by have := Hm.out.y; have := Hm.out.mo; have := Hm.out.mo1; have := Hm.out.d; have := Hm.out.d1; have := Hm.out.yd; have := Hm.out.yd1; have := Hm.out.wd; have := Hm.out.h; have := Hm.out.mi; have := Hm.out.s; omega)
  have n5 := Lib.hid (show m.mi < 100 by have := Hm.out.y; have := Hm.out.mo; have := Hm.out.mo1; have := Hm.out.d; have := Hm.out.d1; have := Hm.out.yd; have := Hm.out.yd1; have := Hm.out.wd; have := Hm.out.h; have := Hm.out.mi; have := Hm.out.s; omega)
  have n6 := Lib.hid (show m.s < 100 by have := Hm.out.y; have := Hm.out.mo; have := Hm.out.mo1; have := Hm.out.d; have := Hm.out.d1; have := Hm.out.yd; have := Hm.out.yd1; have := Hm.out.wd; have := Hm.out.h; have := Hm.out.mi; have := Hm.out.s; omega)
  have Hg0 := Lib.hid (Gw.refl v w)
  go_wp2_with fail
  go_at_call 157
  refine (aint 4 (m.y) (y) HR.out.1 _ Hb.out (.inr (.inl ⟨rfl, n1.out⟩)) (by have := hx'.out; omega) hB).mono ?_
  rintro r w1 ⟨v1, rfl, hb1, hg1⟩
  have Hb1 := Lib.hid hb1
  have Hg1 := Lib.hid (Hg0.out.trans (hg1))
  have hB1 : B ≤ w1.heap.size := by have h1 := Hg1.out.1.size; omega
  clear hb1 hg1
  have HLy := Lib.hid (Ly.pad_length (k := 4) (a := m.y) (by decide) n1.out)
  go_wp2_with (at_builtin; refine wpList_append_br rfl _ _ rfl rfl (Hb1.out.alloc _) [45] ⟨w1.heap.size, 0, none⟩ 1 1 rfl rfl cells_one (by have := hx'.out; have := HLy.out; simp only [List.length_append, List.length_cons, List.length_nil]; omega) (by simp only [World.alloc, Array.size_push]; omega) ?_)
  intro v2 w2 hb2 hg2
  have Hb2 := Lib.hid (show BR B v2 ((xs ++ Ly.pad 4 (m.y)) ++ [45]) w2 by first | exact hb2 | (rw [List.append_assoc]; exact hb2) | simpa using hb2)
  have Hg2 := Lib.hid (Hg1.out.trans (((Gw.refl _ _).alloc _).trans hg2))
  have hB2 : B ≤ w2.heap.size := by have h1 := Hg2.out.1.size; omega
  clear hb2 hg2
  go_wp2_with fail
  go_at_call 157
  refine (aint 2 (m.mo) (mo) HR.out.2.1 _ Hb2.out (.inl ⟨rfl, n2.out⟩) (by have := hx'.out; have := HLy.out; simp only [List.length_append, List.length_cons, List.length_nil]; omega) hB2).mono ?_
  rintro r w3 ⟨v3, rfl, hb3, hg3⟩
  have Hb3 := Lib.hid (show BR B v3 (((xs ++ Ly.pad 4 (m.y)) ++ [45]) ++ Ly.pad 2 (m.mo)) w3 by first | exact hb3 | (rw [List.append_assoc]; exact hb3) | simpa using hb3)
  have Hg3 := Lib.hid (Hg2.out.trans (hg3))
  have hB3 : B ≤ w3.heap.size := by have h1 := Hg3.out.1.size; omega
  clear hb3 hg3
  have HL3 := Lib.hid (Ly.pad_length (k := 2) (a := m.mo) (by decide) n2.out)
  go_wp2_with (at_builtin; refine wpList_append_br rfl _ _ rfl rfl (Hb3.out.alloc _) [45] ⟨w3.heap.size, 0, none⟩ 1 1 rfl rfl cells_one (by have := hx'.out; have := HLy.out; have := HL3.out; simp only [List.length_append, List.length_cons, List.length_nil]; omega) (by simp only [World.alloc, Array.size_push]; omega) ?_)
  intro v4 w4 hb4 hg4
  have Hb4 := Lib.hid (show BR B v4 ((((xs ++ Ly.pad 4 (m.y)) ++ [45]) ++ Ly.pad 2 (m.mo)) ++ [45]) w4 by first | exact hb4 | (rw [List.append_assoc]; exact hb4) | simpa using hb4)
  have Hg4 := Lib.hid (Hg3.out.trans (((Gw.refl _ _).alloc _).trans hg4))
  have hB4 : B ≤ w4.heap.size := by have h1 := Hg4.out.1.size; omega
  clear hb4 hg4
  go_wp2_with fail
  go_at_call 157
  refine (aint 2 (m.d) (d) HR.out.2.2 _ Hb4.out (.inl ⟨rfl, n3.out⟩) (by have := hx'.out; have := HLy.out; have := HL3.out; simp only [List.length_append, List.length_cons, List.length_nil]; omega) hB4).mono ?_
  rintro r w5 ⟨v5, rfl, hb5, hg5⟩
  have Hb5 := Lib.hid (show BR B v5 (((((xs ++ Ly.pad 4 (m.y)) ++ [45]) ++ Ly.pad 2 (m.mo)) ++ [45]) ++ Ly.pad 2 (m.d)) w5 by first | exact hb5 | (rw [List.append_assoc]; exact hb5) | simpa using hb5)
  have Hg5 := Lib.hid (Hg4.out.trans (hg5))
  have hB5 : B ≤ w5.heap.size := by have h1 := Hg5.out.1.size; omega
  clear hb5 hg5
  have HL5 := Lib.hid (Ly.pad_length (k := 2) (a := m.d) (by decide) n3.out)
  go_wp2_with (at_builtin; refine wpList_append_br rfl _ _ rfl rfl (Hb5.out.alloc _) [84] ⟨w5.heap.size, 0, none⟩ 1 1 rfl rfl cells_one (by have := hx'.out; have := HLy.out; have := HL3.out; have := HL5.out; simp only [List.length_append, List.length_cons, List.length_nil]; omega) (by simp only [World.alloc, Array.size_push]; omega) ?_)
  intro v6 w6 hb6 hg6
  have Hb6 := Lib.hid (show BR B v6 ((((((xs ++ Ly.pad 4 (m.y)) ++ [45]) ++ Ly.pad 2 (m.mo)) ++ [45]) ++ Ly.pad 2 (m.d)) ++ [84]) w6 by first | exact hb6 | (rw [List.append_assoc]; exact hb6) | simpa using hb6)
  have Hg6 := Lib.hid (Hg5.out.trans (((Gw.refl _ _).alloc _).trans hg6))
  have hB6 : B ≤ w6.heap.size := by have h1 := Hg6.out.1.size; omega
  clear hb6 hg6
  go_wp2_with fail
  go_at_call 158
  refine (clock_any t A (by rw [HA.out, HC.out.hte]) HC.out.t2 _).mono ?_
  rintro r w' ⟨hh, mi, s, rfl, h1, h2, h3, rfl⟩
  have HS := Lib.hid (show hh = (m.h : Int) ∧ mi = (m.mi : Int) ∧ s = (m.s : Int) by (rw [HC.out.hmo]; exact ⟨h1, h2, h3⟩))
  clear h1 h2 h3
  go_wp2_with fail
  go_at_call 157
  refine (aint 2 (m.h) (hh) HS.out.1 _ Hb6.out (.inl ⟨rfl, n4.out⟩) (by have := hx'.out; have := HLy.out; have := HL3.out; have := HL5.out; simp only [List.length_append, List.length_cons, List.length_nil]; omega) hB6).mono ?_
  rintro r w7 ⟨v7, rfl, hb7, hg7⟩
  have Hb7 := Lib.hid (show BR B v7 (((((((xs ++ Ly.pad 4 (m.y)) ++ [45]) ++ Ly.pad 2 (m.mo)) ++ [45]) ++ Ly.pad 2 (m.d)) ++ [84]) ++ Ly.pad 2 (m.h)) w7 by first | exact hb7 | (rw [List.append_assoc]; exact hb7) | simpa using hb7)
  have Hg7 := Lib.hid (Hg6.out.trans (hg7))
  have hB7 : B ≤ w7.heap.size := by have h1 := Hg7.out.1.size; omega
  clear hb7 hg7
  have HL7 := Lib.hid (Ly.pad_length (k := 2) (a := m.h) (by decide) n4.out)
  go_wp2_with (at_builtin; refine wpList_append_br rfl _ _ rfl rfl (Hb7.out.alloc _) [58] ⟨w7.heap.size, 0, none⟩ 1 1 rfl rfl cells_one (by have := hx'.out; have := HLy.out; have := HL3.out; have := HL5.out; have := HL7.out; simp only [List.length_append, List.length_cons, List.length_nil]; omega) (by simp only [World.alloc, Array.size_push]; omega) ?_)
  intro v8 w8 hb8 hg8
  have Hb8 := Lib.hid (show BR B v8 ((((((((xs ++ Ly.pad 4 (m.y)) ++ [45]) ++ Ly.pad 2 (m.mo)) ++ [45]) ++ Ly.pad 2 (m.d)) ++ [84]) ++ Ly.pad 2 (m.h)) ++ [58]) w8 by first | exact hb8 | (rw [List.append_assoc]; exact hb8) | simpa using hb8)
  have Hg8 := Lib.hid (Hg7.out.trans (((Gw.refl _ _).alloc _).trans hg8))
  have hB8 : B ≤ w8.heap.size := by have h1 := Hg8.out.1.size; omega
  clear hb8 hg8
  go_wp2_with fail
  go_at_call 157
  refine (aint 2 (m.mi) (mi) HS.out.2.1 _ Hb8.out (.inl ⟨rfl, n5.out⟩) (by have := hx'.out; have := HLy.out; have := HL3.out; have := HL5.out; have := HL7.out; simp only [List.length_append, List.length_cons, List.length_nil]; omega) hB8).mono ?_
  rintro r w9 ⟨v9, rfl, hb9, hg9⟩
  have Hb9 := Lib.hid (show BR B v9 (((((((((xs ++ Ly.pad 4 (m.y)) ++ [45]) ++ Ly.pad 2 (m.mo)) ++ [45]) ++ Ly.pad 2 (m.d)) ++ [84]) ++ Ly.pad 2 (m.h)) ++ [58]) ++ Ly.pad 2 (m.mi)) w9 by first | exact hb9 | (rw [List.append_assoc]; exact hb9) | simpa using hb9)
  have Hg9 := Lib.hid (Hg8.out.trans (hg9))
  have hB9 : B ≤ w9.heap.size := by have h1 := Hg9.out.1.size; omega
  clear hb9 hg9
  have HL9 := Lib.hid (Ly.pad_length (k := 2) (a := m.mi) (by decide) n5.out)
  go_wp2_with (at_builtin; refine wpList_append_br rfl _ _ rfl rfl (Hb9.out.alloc _) [58] ⟨w9.heap.size, 0, none⟩ 1 1 rfl rfl cells_one (by have := hx'.out; have := HLy.out; have := HL3.out; have := HL5.out; have := HL7.out; have := HL9.out; simp only [List.length_append, List.length_cons, List.length_nil]; omega) (by simp only [World.alloc, Array.size_push]; omega) ?_)
  intro v10 w10 hb10 hg10
  have Hb10 := Lib.hid (show BR B v10 ((((((((((xs ++ Ly.pad 4 (m.y)) ++ [45]) ++ Ly.pad 2 (m.mo)) ++ [45]) ++ Ly.pad 2 (m.d)) ++ [84]) ++ Ly.pad 2 (m.h)) ++ [58]) ++ Ly.pad 2 (m.mi)) ++ [58]) w10 by first | exact hb10 | (rw [List.append_assoc]; exact hb10) | simpa using hb10)
  have Hg10 := Lib.hid (Hg9.out.trans (((Gw.refl _ _).alloc _).trans hg10))
  have hB10 : B ≤ w10.heap.size := by have h1 := Hg10.out.1.size; omega
  clear hb10 hg10
  go_wp2_with fail
  go_at_call 157
  refine (aint 2 (m.s) (s) HS.out.2.2 _ Hb10.out (.inl ⟨rfl, n6.out⟩) (by have := hx'.out; have := HLy.out; have := HL3.out; have := HL5.out; have := HL7.out; have := HL9.out; simp only [List.length_append, List.length_cons, List.length_nil]; omega) hB10).mono ?_
  rintro r w11 ⟨v11, rfl, hb11, hg11⟩
  have Hb11 := Lib.hid (show BR B v11 (((((((((((xs ++ Ly.pad 4 (m.y)) ++ [45]) ++ Ly.pad 2 (m.mo)) ++ [45]) ++ Ly.pad 2 (m.d)) ++ [84]) ++ Ly.pad 2 (m.h)) ++ [58]) ++ Ly.pad 2 (m.mi)) ++ [58]) ++ Ly.pad 2 (m.s)) w11 by first | exact hb11 | (rw [List.append_assoc]; exact hb11) | simpa using hb11)
  have Hg11 := Lib.hid (Hg10.out.trans (hg11))
  have hB11 : B ≤ w11.heap.size := by have h1 := Hg11.out.1.size; omega
  clear hb11 hg11
  have HL11 := Lib.hid (Ly.pad_length (k := 2) (a := m.s) (by decide) n6.out)
  have HK := Lib.hid ((HC.out.ctx rfl Hb0.out HA.out HD.out).gw (fun k hk => ⟨(H.out.lt k hk).1, by have := (H.out.lt k hk).2; omega⟩) Hg11.out)
  have c0 := HK.out.c0
  have c1 := HK.out.c1
  have c2 := HK.out.c2
  have c3 := HK.out.c3
  have na0 : 0 ≤ na := by have := HC.out.hna; omega
  have na1 : na < 1000000000 := by have := HC.out.hna; have := Hm.out.na; omega
  have hfr := fun W => frac_any 46 57 9 35 rfl (.inl rfl) (by decide) W
  have Hfr := Lib.hid hfr
  clear hfr
  go_wp2_with fail
  go_at_call 159
  refine (Hfr.out _).mono ?_
  rintro r w' ⟨rfl, rfl⟩
  go_wp2_with fail
  go_at_call 161
  refine (nano_any te na off Z na0 na1 _).mono ?_
  rintro r wn ⟨rfl, hwn⟩
  have Hwn := Lib.hid hwn
  have hBn : B ≤ wn.heap.size := by have := hwn.size; omega
  clear hwn
  go_wp2_with fail
  go_at_call 160
  refine (nano35 fr_nano m.na na HC.out.hna Hm.out.na _ (Hb11.out.below Hwn.out) (by have := hx'.out; have := HLy.out; have := HL3.out; have := HL5.out; have := HL7.out; have := HL9.out; have := HL11.out; (try simp only [List.length_append, List.length_cons, List.length_nil]); omega) hBn).mono ?_; rintro r w12 ⟨v12, rfl, hb12, hgn⟩
  have hg12 := (Gw.of_below (v := v11) Hwn.out).trans hgn
  have HLn := Lib.hid (Ly.fracT_len 46 9 ((35 : Int) == 35) m.na (by have := Hm.out.na; omega))
  clear hgn
  have Hb12 := Lib.hid (show BR B v12 ((((((((((((xs ++ Ly.pad 4 (m.y)) ++ [45]) ++ Ly.pad 2 (m.mo)) ++ [45]) ++ Ly.pad 2 (m.d)) ++ [84]) ++ Ly.pad 2 (m.h)) ++ [58]) ++ Ly.pad 2 (m.mi)) ++ [58]) ++ Ly.pad 2 (m.s)) ++ Ly.fracT 46 9 ((35 : Int) == 35) m.na) w12 by first | exact hb12 | (rw [List.append_assoc]; exact hb12) | simpa using hb12)
  have Hg12 := Lib.hid (Hg11.out.trans (hg12))
  have hB12 : B ≤ w12.heap.size := by have h1 := Hg12.out.1.size; omega
  clear hb12 hg12
  go_wp2_with (at_builtin; refine wpList_append_br rfl _ _ rfl rfl (Hb12.out.alloc _) [43] ⟨w12.heap.size, 0, none⟩ 1 1 rfl rfl cells_one (by have := hx'.out; have := HLy.out; have := HL3.out; have := HL5.out; have := HL7.out; have := HL9.out; have := HL11.out; have := HLn.out; simp only [List.length_append, List.length_cons, List.length_nil]; omega) (by simp only [World.alloc, Array.size_push]; omega) ?_)
  intro v13 w13 hb13 hg13
  have Hb13 := Lib.hid (show BR B v13 (((((((((((((xs ++ Ly.pad 4 (m.y)) ++ [45]) ++ Ly.pad 2 (m.mo)) ++ [45]) ++ Ly.pad 2 (m.d)) ++ [84]) ++ Ly.pad 2 (m.h)) ++ [58]) ++ Ly.pad 2 (m.mi)) ++ [58]) ++ Ly.pad 2 (m.s)) ++ Ly.fracT 46 9 ((35 : Int) == 35) m.na) ++ [43]) w13 by first | exact hb13 | (rw [List.append_assoc]; exact hb13) | simpa using hb13)
  have Hg13 := Lib.hid (Hg12.out.trans (((Gw.refl _ _).alloc _).trans hg13))
  have hB13 : B ≤ w13.heap.size := by have h1 := Hg13.out.1.size; omega
  clear hb13 hg13
  go_wp2_with fail
  go_at_call 157
  refine (aint 2 (m.off.natAbs / 3600) (zp / 60) HX1.out _ Hb13.out (.inl ⟨rfl, hn1.out⟩) (by have := hx'.out; have := HLy.out; have := HL3.out; have := HL5.out; have := HL7.out; have := HL9.out; have := HL11.out; have := HLn.out; simp only [List.length_append, List.length_cons, List.length_nil]; omega) hB13).mono ?_
  rintro r w14 ⟨v14, rfl, hb14, hg14⟩
  have Hb14 := Lib.hid (show BR B v14 ((((((((((((((xs ++ Ly.pad 4 (m.y)) ++ [45]) ++ Ly.pad 2 (m.mo)) ++ [45]) ++ Ly.pad 2 (m.d)) ++ [84]) ++ Ly.pad 2 (m.h)) ++ [58]) ++ Ly.pad 2 (m.mi)) ++ [58]) ++ Ly.pad 2 (m.s)) ++ Ly.fracT 46 9 ((35 : Int) == 35) m.na) ++ [43]) ++ Ly.pad 2 (m.off.natAbs / 3600)) w14 by first | exact hb14 | (rw [List.append_assoc]; exact hb14) | simpa using hb14)
  have Hg14 := Lib.hid (Hg13.out.trans (hg14))
  have hB14 : B ≤ w14.heap.size := by have h1 := Hg14.out.1.size; omega
  clear hb14 hg14
  have HL14 := Lib.hid (Ly.pad_length (k := 2) (a := m.off.natAbs / 3600) (by decide) hn1.out)
  go_wp2_with (at_builtin; refine wpList_append_br rfl _ _ rfl rfl (Hb14.out.alloc _) [58] ⟨w14.heap.size, 0, none⟩ 1 1 rfl rfl cells_one (by have := hx'.out; have := HLy.out; have := HL3.out; have := HL5.out; have := HL7.out; have := HL9.out; have := HL11.out; have := HLn.out; have := HL14.out; simp only [List.length_append, List.length_cons, List.length_nil]; omega) (by simp only [World.alloc, Array.size_push]; omega) ?_)
  intro v15 w15 hb15 hg15
  have Hb15 := Lib.hid (show BR B v15 (((((((((((((((xs ++ Ly.pad 4 (m.y)) ++ [45]) ++ Ly.pad 2 (m.mo)) ++ [45]) ++ Ly.pad 2 (m.d)) ++ [84]) ++ Ly.pad 2 (m.h)) ++ [58]) ++ Ly.pad 2 (m.mi)) ++ [58]) ++ Ly.pad 2 (m.s)) ++ Ly.fracT 46 9 ((35 : Int) == 35) m.na) ++ [43]) ++ Ly.pad 2 (m.off.natAbs / 3600)) ++ [58]) w15 by first | exact hb15 | (rw [List.append_assoc]; exact hb15) | simpa using hb15)
  have Hg15 := Lib.hid (Hg14.out.trans (((Gw.refl _ _).alloc _).trans hg15))
  have hB15 : B ≤ w15.heap.size := by have h1 := Hg15.out.1.size; omega
  clear hb15 hg15
  go_wp2_with fail
  go_at_call 157
  refine (aint 2 (m.off.natAbs / 60 % 60) (zp % 60) HX2.out _ Hb15.out (.inl ⟨rfl, hn2.out⟩) (by have := hx'.out; have := HLy.out; have := HL3.out; have := HL5.out; have := HL7.out; have := HL9.out; have := HL11.out; have := HLn.out; have := HL14.out; simp only [List.length_append, List.length_cons, List.length_nil]; omega) hB15).mono ?_
  rintro r w16 ⟨v16, rfl, hb16, hg16⟩
  have Hb16 := Lib.hid (show BR B v16 ((((((((((((((((xs ++ Ly.pad 4 (m.y)) ++ [45]) ++ Ly.pad 2 (m.mo)) ++ [45]) ++ Ly.pad 2 (m.d)) ++ [84]) ++ Ly.pad 2 (m.h)) ++ [58]) ++ Ly.pad 2 (m.mi)) ++ [58]) ++ Ly.pad 2 (m.s)) ++ Ly.fracT 46 9 ((35 : Int) == 35) m.na) ++ [43]) ++ Ly.pad 2 (m.off.natAbs / 3600)) ++ [58]) ++ Ly.pad 2 (m.off.natAbs / 60 % 60)) w16 by first | exact hb16 | (rw [List.append_assoc]; exact hb16) | simpa using hb16)
  have Hg16 := Lib.hid (Hg15.out.trans (hg16))
  have hB16 : B ≤ w16.heap.size := by have h1 := Hg16.out.1.size; omega
  clear hb16 hg16
  have HL16 := Lib.hid (Ly.pad_length (k := 2) (a := m.off.natAbs / 60 % 60) (by decide) hn2.out)
  go_wp2
  go_ret
  exact ⟨v16, rfl, (by have ht : xs ++ Ly.lay (Ly.txt m) rfcn = ((((((((((((((((xs ++ Ly.pad 4 (m.y)) ++ [45]) ++ Ly.pad 2 (m.mo)) ++ [45]) ++ Ly.pad 2 (m.d)) ++ [84]) ++ Ly.pad 2 (m.h)) ++ [58]) ++ Ly.pad 2 (m.mi)) ++ [58]) ++ Ly.pad 2 (m.s)) ++ Ly.fracT 46 9 ((35 : Int) == 35) m.na) ++ [43]) ++ Ly.pad 2 (m.off.natAbs / 3600)) ++ [58]) ++ Ly.pad 2 (m.off.natAbs / 60 % 60)) := (by rw [rfcn_txt]; rw [if_neg (by have := Hc.out; omega)]; unfold Ly.zn; rw [if_neg (by have := Hc.out; omega)]; simp); rw [ht]; exact Hb16.out), Hgw.out.trans Hg16.out⟩

end Go.Proofs.YtchmhdmapknmfaaGreatDoor

/-
  AppendFormat and Format of package time: a moment's text by a layout.
-/
namespace Go.Proofs.YtchmhdmapknmfaaGreatDoor
open Go.RowKit

theorem rfc_any (b : Bool) {B : Nat} {v : Value} {xs : List UInt8} (Z : ByteArray) (te na off : Int) (m : Ly.Mo) (t : Nat) (w : World) (h : BR B v xs w) (C : TmCtx B Z off te na m t w) (hx : xs.length ≤ 1000) :
    Calls Tryz.prog 130 #[tmV te na Z off, v, .bool b] w (BrPost B v (xs ++ Ly.lay (Ly.txt m) (if b then rfcn else rfc)) w) := by
  cases b
  · rcases Int.lt_trichotomy m.off 0 with h0 | h0 | h0
    · exact rfc0_neg Z te na off m t w h C hx h0
    · exact rfc0_zero Z te na off m t w h C hx h0
    · exact rfc0_pos Z te na off m t w h C hx h0
  · rcases Int.lt_trichotomy m.off 0 with h0 | h0 | h0
    · exact rfc1_neg Z te na off m t w h C hx h0
    · exact rfc1_zero Z te na off m t w h C hx h0
    · exact rfc1_pos Z te na off m t w h C hx h0

set_option maxRecDepth 100000 in
set_option maxHeartbeats 4000000 in
theorem appendFmt_any {B : Nat} {v : Value} {xs : List UInt8} (l Z : ByteArray) (te na off : Int) (m : Ly.Mo) (t : Nat) (w : World) (h : BR B v xs w) (C : TmCtx B Z off te na m t w) (hno : m.zone = bts Z ∨ No23 (bts l)) (hl : l.size ≤ 600) (hx : xs.length ≤ 1000) :
    Calls Tryz.prog 90 #[tmV te na Z off, v, .string l] w (BrPost B v (xs ++ Ly.lay (Ly.txt m) (bts l)) w) := by
  have el : l.toList = bts l := Lib.toList_data l
  have H := Lib.hid (h.alloc (.cells #[.int .i64 te, .int .i32 na, .string Z, .int .i64 off] 96))
  have HC := Lib.hid (C.below ((Below.refl B w).alloc C.hB (.cells #[.int .i64 te, .int .i32 na, .string Z, .int .i64 off] 96)))
  have Hl := Lib.hid hl
  have Hx := Lib.hid hx
  have Hno := Lib.hid hno
  clear hno
  by_cases h1 : bts l = rfc
  · have f1 : (l.toList == [50, 48, 48, 54, 45, 48, 49, 45, 48, 50, 84, 49, 53, 58, 48, 52, 58, 48, 53, 90, 48, 55, 58, 48, 48]) = true := by rw [el, h1]; rfl
    have H1 := Lib.hid h1
    clear h C hl hx el h1
    unfold tmV
    go_enter Tryz.func90, Tryz.ntmps90
    go_wp2_with fail
    go_at_call 130
    refine (rfc_any false Z te na off m t _ H.out HC.out Hx.out).mono ?_
    rintro r w1 ⟨v1, rfl, hb1, hg1⟩
    have Hb1 := Lib.hid hb1
    have Hg1 := Lib.hid (((Gw.refl v w).alloc _).trans hg1)
    clear hb1 hg1
    go_wp2
    go_ret
    exact ⟨v1, rfl, by rw [H1.out]; exact Hb1.out, Hg1.out⟩
  · have f1 : (l.toList == [50, 48, 48, 54, 45, 48, 49, 45, 48, 50, 84, 49, 53, 58, 48, 52, 58, 48, 53, 90, 48, 55, 58, 48, 48]) = false := by rw [el, beq_eq_false_iff_ne]; exact h1
    by_cases h2 : bts l = rfcn
    · have f2 : (l.toList == [50, 48, 48, 54, 45, 48, 49, 45, 48, 50, 84, 49, 53, 58, 48, 52, 58, 48, 53, 46, 57, 57, 57, 57, 57, 57, 57, 57, 57, 90, 48, 55, 58, 48, 48]) = true := by rw [el, h2]; rfl
      have H2 := Lib.hid h2
      clear h C hl hx el h1 h2
      unfold tmV
      go_enter Tryz.func90, Tryz.ntmps90
      go_wp2_with fail
      go_at_call 130
      refine (rfc_any true Z te na off m t _ H.out HC.out Hx.out).mono ?_
      rintro r w1 ⟨v1, rfl, hb1, hg1⟩
      have Hb1 := Lib.hid hb1
      have Hg1 := Lib.hid (((Gw.refl v w).alloc _).trans hg1)
      clear hb1 hg1
      go_wp2
      go_ret
      exact ⟨v1, rfl, by rw [H2.out]; exact Hb1.out, Hg1.out⟩
    · have f2 : (l.toList == [50, 48, 48, 54, 45, 48, 49, 45, 48, 50, 84, 49, 53, 58, 48, 52, 58, 48, 53, 46, 57, 57, 57, 57, 57, 57, 57, 57, 57, 90, 48, 55, 58, 48, 48]) = false := by rw [el, beq_eq_false_iff_ne]; exact h2
      clear h C hl hx el h1 h2
      unfold tmV
      go_enter Tryz.func90, Tryz.ntmps90
      go_wp2_with fail
      go_at_call 131
      refine (appendFormat_any l Z te na off m t _ H.out HC.out Hno.out Hl.out Hx.out).mono ?_
      rintro r w1 ⟨v1, rfl, hb1, hg1⟩
      have Hb1 := Lib.hid hb1
      have Hg1 := Lib.hid (((Gw.refl v w).alloc _).trans hg1)
      clear hb1 hg1
      go_wp2
      go_ret
      exact ⟨v1, rfl, Hb1.out, Hg1.out⟩

theorem br_new {B : Nat} (w : World) (o : Obj) (cs : Array Value) (n : Nat) (tg : TypeId) (hB : B ≤ w.heap.size) (hc : cs.size = n) (hn : n ≤ 1000) : BR B (.slice (some ⟨w.heap.size + 1, 0, none⟩) 0 n) [] ((w.alloc o).alloc (.cells cs tg)) := by
  have h3 := heap_alloc_new (w.alloc o) (.cells cs tg)
  have e : (w.alloc o).heap.size = w.heap.size + 1 := by simp
  rw [e] at h3
  exact ⟨w.heap.size + 1, n, tg, cs, rfl, by omega, h3, Nat.zero_le _, by unfold maxLen; omega, hc, rfl⟩

theorem make_bytes (n : Nat) (hn : n ≤ 1000) : ∃ cs : Array Value, cs.size = n ∧ ∀ W, (Instr.makeSlice 101 (.int .i64 0) (.int .i64 (n : Int))).run Tryz.prog W = .ok (.slice (some ⟨W.heap.size, 0, none⟩) 0 n) (W.alloc (.cells cs 5)) := by
  obtain ⟨i, hi, hz, hsz, hby⟩ := info_parts Tryz.info5
  refine ⟨madeCells (Value.int .u8 0).cells n, size_madeCells _ _, fun W => ?_⟩
  have h := run_makeSlice (P := Tryz.prog) W 101 5 i (.int .u8 0) Tryz.underlying101 hi hz .i64 .i64 0 n (by omega) (by omega) (by rw [hsz]; omega) (by rw [hby]; omega) (by omega)
  rw [hsz, Nat.mul_one] at h
  exact h

set_option maxRecDepth 100000 in
set_option maxHeartbeats 4000000 in
theorem layFormat_any (l Z : ByteArray) (te na off : Int) (m : Ly.Mo) (t : Nat) (w : World) (C : TmCtx w.heap.size Z off te na m t w) (hno : m.zone = bts Z ∨ No23 (bts l)) (hl : l.size ≤ 600) :
    Calls Tryz.prog 51 #[tmV te na Z off, .string l] w fun r w' => r = .returned (.string ⟨(Ly.lay (Ly.txt m) (bts l)).toArray⟩) ∧ Below w.heap.size w w' := by
  have HC := Lib.hid C
  have Hl := Lib.hid hl
  have Hno := Lib.hid hno
  clear hno
  have c1 : (l.size : Int) ≤ 600 := by omega
  by_cases h1 : l.size + 10 < 64
  · have f1 : (l.size : Int) + 10 < 64 := by omega
    clear C hl h1
    unfold tmV
    go_enter Tryz.func51, Tryz.ntmps51
    go_wp2_with fail
    go_at_call 90
    refine (appendFmt_any l Z te na off m t _ (br_new w _ _ 64 157 (Nat.le_refl _) (by rfl) (by omega)) (HC.out.below (((Below.refl w.heap.size w).alloc (Nat.le_refl _) _).alloc (by simp) _)) Hno.out Hl.out (Nat.zero_le _)).mono ?_
    rintro r w1 ⟨v1, rfl, hb1, hg1⟩
    rw [List.nil_append] at hb1
    have hst := br_string hb1
    have Hb := Lib.hid ((((Below.refl w.heap.size w).alloc (Nat.le_refl _) (.cells #[.int .i64 te, .int .i32 na, .string Z, .int .i64 off] 96)).alloc (by simp) _).trans (hg1.below (fun k hk => by simp [Value.ownBlock] at hk; omega) (by simp <;> omega)))
    clear hb1 hg1
    go_wp2
    go_ret
    exact ⟨rfl, Hb.out⟩
  · have f1 : (64 : Int) ≤ (l.size : Int) + 10 := by omega
    obtain ⟨cs, hcs, hmk⟩ := make_bytes (l.size + 10) (by omega)
    rw [show ((l.size + 10 : Nat) : Int) = (l.size : Int) + 10 by omega] at hmk
    have HCs := Lib.hid hcs
    clear C hl h1 hcs
    unfold tmV
    go_enter Tryz.func51, Tryz.ntmps51
    go_wp2_with fail
    go_at_call 90
    refine (appendFmt_any l Z te na off m t _ (br_new w _ _ (l.size + 10) 5 (Nat.le_refl _) HCs.out (by have := Hl.out; omega)) (HC.out.below (((Below.refl w.heap.size w).alloc (Nat.le_refl _) _).alloc (by simp) _)) Hno.out Hl.out (Nat.zero_le _)).mono ?_
    rintro r w1 ⟨v1, rfl, hb1, hg1⟩
    rw [List.nil_append] at hb1
    have hst := br_string hb1
    have Hb := Lib.hid ((((Below.refl w.heap.size w).alloc (Nat.le_refl _) (.cells #[.int .i64 te, .int .i32 na, .string Z, .int .i64 off] 96)).alloc (by simp) _).trans (hg1.below (fun k hk => by simp [Value.ownBlock] at hk; omega) (by simp <;> omega)))
    clear hb1 hg1
    go_wp2
    go_ret
    exact ⟨rfl, Hb.out⟩
end Go.Proofs.YtchmhdmapknmfaaGreatDoor
