/-
  (ztime.Duration).String: the array of 32 bytes, filled from its end; fmtInt, fmtFrac.
-/
import Derived.Test.YtchmhdmapknmfaaGreatDoorBm
import Derived.Laws.EntriesVeiled
namespace Go.Proofs.YtchmhdmapknmfaaGreatDoor
open Go.RowKit

/-- The last digit of a number. -/
def dg (v : Nat) : UInt8 := UInt8.ofNat (48 + v % 10)

/-- A number's digits ahead of a text (nothing for 0). -/
def dl (v : Nat) (out : List UInt8) : List UInt8 := if h : v = 0 then out else dl (v / 10) (dg v :: out)
termination_by v
decreasing_by omega

/-- What fmtInt lays ahead of a text. -/
def dn (v : Nat) (out : List UInt8) : List UInt8 := if v = 0 then 48 :: out else dl v out

/-- The digits of a part, of n places, its noughts at the end left out: what is laid, is anything laid, what is left of the number. -/
def fr : Nat → Nat → Bool → List UInt8 → List UInt8 × Bool
  | 0, _, p, out => (out, p)
  | n + 1, v, p, out => fr n (v / 10) (p || v % 10 != 0) (if p || v % 10 != 0 then dg v :: out else out)

/-- What fmtFrac lays ahead of a text. -/
def fp (n v : Nat) (out : List UInt8) : List UInt8 := if (fr n v false out).2 then 46 :: (fr n v false out).1 else (fr n v false out).1

theorem dg_val (v : Nat) : ((v : Int) % 10 + 48) = ((dg v).toNat : Int) := by
  unfold dg
  rw [UInt8.toNat_ofNat']
  omega

theorem div_pow {n k : Nat} (h : n < 10 ^ k) (hk : 1 ≤ k) : n / 10 < 10 ^ (k - 1) := by
  obtain ⟨j, rfl⟩ : ∃ j, k = j + 1 := ⟨k - 1, by omega⟩
  rw [Nat.pow_succ] at h
  rw [Nat.add_sub_cancel]
  omega

/-- Block g is the array; its end is this text. -/
def Tl (g : Nat) (out : List UInt8) (w : World) : Prop :=
  ∃ L : List UInt8, w.heap[g]? = some (.cells (bRow L).toArray 224 (0, 0)) ∧ L.length = 32 ∧ out.length ≤ 32 ∧ L.drop (32 - out.length) = out

theorem Tl.frozen {g : Nat} {out : List UInt8} {w : World} (h : Tl g out w) (i : Nat) : w.frozen? ⟨g, i, none⟩ = false := by
  obtain ⟨L, h, -⟩ := h
  simp [World.frozen?, h]

theorem Tl.cell {g : Nat} {out : List UInt8} {w : World} (h : Tl g out w) (i : Nat) (hi : i < 32) : ∃ v, w.cell? ⟨g, i, none⟩ = some v := by
  obtain ⟨L, h, h32, -⟩ := h
  refine ⟨.int .u8 (L[i].toNat : Int), ?_⟩
  simp only [World.cell?, h]
  simp [bRow, h32, hi]

theorem bRow_set (L : List UInt8) (i : Nat) (b : UInt8) : (bRow L).set i (.int .u8 (b.toNat : Int)) = bRow (L.set i b) := by
  simp [bRow, List.map_set]

theorem heap_set {w : World} {g : Nat} {cs : List Value} {t : TypeId} (h : w.heap[g]? = some (.cells cs.toArray t (0, 0))) (i : Nat) (v : Value) :
    (w.setCell ⟨g, i, none⟩ v).heap[g]? = some (.cells (cs.set i v).toArray t (0, 0)) := by
  have hlt := lt_of_block h
  rw [Array.getElem?_eq_getElem hlt] at h
  have h' := Option.some.inj h
  show (w.heap.modify g _)[g]? = _
  rw [Array.getElem?_eq_getElem (by simpa using hlt), Array.getElem_modify_self, h']
  simp

theorem Tl.push {g k : Nat} {out : List UInt8} {w : World} (h : Tl g out w) (hk : k + 1 + out.length = 32) (b : UInt8) (x : Int) (hx : x = (b.toNat : Int)) : Tl g (b :: out) (w.setCell ⟨g, k, none⟩ (.int .u8 x)) := by
  subst hx
  obtain ⟨L, h, h32, hle, hd⟩ := h
  refine ⟨L.set k b, ?_, by simpa using h32, by simp; omega, ?_⟩
  · rw [heap_set h, bRow_set]
  · have e : 32 - (b :: out).length = k := by simp; omega
    have e2 : 32 - out.length = k + 1 := by omega
    rw [e, List.drop_eq_getElem_cons (by simp; omega), List.getElem_set_self, List.drop_set_of_lt (by omega), ← e2, hd]

theorem dl_step {v : Nat} (h : 0 < v) (out : List UInt8) : dl v out = dl (v / 10) (dg v :: out) := by
  conv => lhs; unfold dl
  rw [dif_neg (by omega)]

theorem dl_zero (out : List UInt8) : dl 0 out = out := by unfold dl; simp

/-- What the loop of fmtInt keeps. -/
def IRel (K g : Nat) (fin : List UInt8) (B : Nat) (w0 : World) (v i : Value) (w : World) : Prop :=
  ∃ (k n : Nat) (out : List UInt8), v = .int .u64 n ∧ i = .int .i64 k ∧ k ≤ K ∧ k + out.length = 32 ∧ n < 10 ^ k ∧ n ≤ 18446744073709551615 ∧ dl n out = fin ∧ Tl g out w ∧ Below B w0 w

set_option maxRecDepth 100000 in
set_option maxHeartbeats 400000 in
theorem fmtInt_any (g k n B : Nat) (out : List UInt8) (w0 w : World) (hB : B ≤ g) (h0 : Below B w0 w) (hT : Tl g out w) (hk : k + out.length = 32) (hk0 : 1 ≤ k) (hn : n < 10 ^ k) (hn64 : n ≤ 18446744073709551615) :
    Calls Tryz.prog 174 #[.slice (some ⟨g, 0, none⟩) k 32, .int .u64 n] w fun r w' => ∃ k' : Nat, r = .returned (.int .i64 k') ∧ k' + (dn n out).length = 32 ∧ Tl g (dn n out) w' ∧ Below B w0 w' := by
  have HT := Lib.hid hT
  have H0 := Lib.hid h0
  have hk32 : k ≤ 32 := by omega
  by_cases hz : n = 0
  · subst hz
    have hfz := hT.frozen (k - 1)
    obtain ⟨v0, hc0⟩ := hT.cell (k - 1) (by omega)
    have Hp := Lib.hid (fun x hx => hT.push (k := k - 1) (by omega) 48 x hx)
    clear hT h0
    go_enter Tryz.func174, Tryz.ntmps174
    go_wp2
    go_ret
    exact ⟨k - 1, by show Ending.returned (.int .i64 ((k : Int) - 1)) = _; rw [show (k : Int) - 1 = ((k - 1 : Nat) : Int) by omega], by simp [dn]; omega, by first | exact Hp.out _ rfl | (simpa [dn] using Hp.out _ rfl), H0.out.setCell (p := ⟨g, k - 1, none⟩) hB _⟩
  · have hpos : 0 < n := by omega
    have f0 : ((n : Int) == 0) = false := by rw [beq_eq_false_iff_ne]; omega
    clear hT h0 hz
    go_enter Tryz.func174, Tryz.ntmps174
    go_wp2_with fail
    go_loopw [1, 5] (fun v i wr => IRel k g (dn n out) B w0 v i wr) (fun v _ _ => (intOf v).toNat)
    case atStart => exact ⟨k, n, out, rfl, rfl, Nat.le_refl _, hk, hn, hn64, by unfold dn; rw [if_neg (by omega)], HT.out, H0.out⟩
    case round =>
      obtain ⟨k1, n', out', rfl, rfl, hkk, hk', hn', h64, hfin, hT, hb⟩ := hrel
      have HT' := Lib.hid hT
      have Hb := Lib.hid hb
      have Hfin := Lib.hid hfin
      by_cases hp : 0 < n'
      · have hk1 : 1 ≤ k1 := by
          rcases Nat.eq_zero_or_pos k1 with h | h
          · subst h; simp at hn'; omega
          · exact h
        have hfz := hT.frozen (k1 - 1)
        obtain ⟨v0, hc0⟩ := hT.cell (k1 - 1) (by omega)
        have Hp := Lib.hid (fun x hx => hT.push (k := k1 - 1) (by omega) (dg n') x hx)
        have hp' : (0 : Int) < (n' : Int) := by omega
        have hdiv : (n' : Int).tdiv 10 = ((n' / 10 : Nat) : Int) := by rw [Int.tdiv_eq_ediv_of_nonneg (by omega)]; omega
        have hpow := Lib.hid (div_pow hn' hk1)
        clear hT hb hfin hn'
        go_wp2
        exact ⟨⟨k1 - 1, n' / 10, dg n' :: out', by go_num, by go_num, by omega, by simp; omega, hpow.out, by omega, by rw [← Hfin.out, dl_step hp], Hp.out _ (dg_val n'), Hb.out.setCell (p := ⟨g, k1 - 1, none⟩) hB _⟩, by simp [intOf]; omega⟩
      · have hz : n' = 0 := by omega
        subst hz
        rw [dl_zero] at hfin
        have Hf := Lib.hid hfin
        clear hT hb hfin hn'
        go_wp2
        go_ret
        exact ⟨k1, rfl, by rw [← Hf.out]; exact hk', by rw [← Hf.out]; exact HT'.out, Hb.out⟩
end Go.Proofs.YtchmhdmapknmfaaGreatDoor
