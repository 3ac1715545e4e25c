/-
  Operations as the law hands them over: are they small; texts that are the same.
-/
import Derived.Test.YtchmhdmapknmfaaGreatDoorWa
namespace Go.Proofs.YtchmhdmapknmfaaGreatDoor
open Go.RowKit

theorem zb_drewN {B : Nat} {a w : World} (h : Below B a w) (n : Nat) : Below B a (w.drewN n) := h.trans ⟨rfl, rfl, rfl, Nat.le_refl _, fun _ _ => rfl⟩

/-- A slice of operations. -/
def ZoArr (v : Value) (L : List ZbOp) (w : World) : Prop :=
  L = [] ∧ (∃ p cap, v = .slice p 0 cap) ∨ ∃ b off cap, v = .slice (some ⟨b, off, none⟩) L.length cap ∧ b < w.heap.size ∧
    ∀ i (h : i < L.length), w.cell? ⟨b, off + i * 3, none⟩ = some (.string L[i].text) ∧ w.cell? ⟨b, off + i * 3 + 1, none⟩ = some (.bool L[i].sync) ∧ w.cell? ⟨b, off + i * 3 + 2, none⟩ = some (.bool L[i].stop)

theorem ZoArr.below {v : Value} {L : List ZbOp} {w w' : World} (h : ZoArr v L w) (hb : Below w.heap.size w w') : ZoArr v L w' := by
  rcases h with h | ⟨b, off, cap, h1, h2, h3⟩
  · exact .inl h
  · exact .inr ⟨b, off, cap, h1, Nat.lt_of_lt_of_le h2 hb.size, fun i hi => ⟨(hb.cell h2).trans (h3 i hi).1, (hb.cell h2).trans (h3 i hi).2.1, (hb.cell h2).trans (h3 i hi).2.2⟩⟩
theorem ZoArr.slice {v : Value} {L : List ZbOp} {w : World} (h : ZoArr v L w) : ∃ p cap, v = .slice p L.length cap := by
  rcases h with ⟨rfl, p, cap, rfl⟩ | ⟨b, off, cap, rfl, -, -⟩
  · exact ⟨p, cap, rfl⟩
  · exact ⟨_, cap, rfl⟩

set_option maxRecDepth 100000 in
set_option maxHeartbeats 1000000 in
theorem fits13_any (t : ByteArray) (x y : Bool) (w : World) : Calls Tryz.prog 61 #[.agg #[.string t, .bool x, .bool y]] w fun r w' => ∃ b : Bool, r = .returned (.bool b) ∧ Below w.heap.size w w' := by
  by_cases h : (2147483647 : Int) < (t.size : Int)
  · go_enter Tryz.func61, Tryz.ntmps61
    go_wp2
    go_ret
    exact ⟨_, rfl, (Below.refl _ _).alloc (Nat.le_refl _) _⟩
  · have h2 : (t.size : Int) ≤ 2147483647 := by omega
    clear h
    go_enter Tryz.func61, Tryz.ntmps61
    go_wp2
    go_ret
    exact ⟨_, rfl, (Below.refl _ _).alloc (Nat.le_refl _) _⟩

set_option maxRecDepth 100000 in
set_option maxHeartbeats 1000000 in
theorem fits12_big (p : Option Addr) (n cap : Nat) (w : World) (h : 2147483647 < n) : Calls Tryz.prog 30 #[.slice p n cap] w fun r w' => ∃ b : Bool, r = .returned (.bool b) ∧ b = false ∧ w = w' := by
  have h1 : (2147483647 : Int) < (n : Int) := by omega
  clear h
  go_enter Tryz.func30, Tryz.ntmps30
  go_wp2
  go_ret
  exact ⟨_, rfl, rfl, rfl⟩

set_option maxRecDepth 100000 in
set_option maxHeartbeats 2000000 in
theorem fits12_any (v : Value) (L : List ZbOp) (w : World) (h : ZoArr v L w) (hL : L.length ≤ 2147483647) : Calls Tryz.prog 30 #[v] w fun r w' => ∃ b : Bool, r = .returned (.bool b) ∧ Below w.heap.size w w' := by
  obtain ⟨pv, capv, rfl⟩ := h.slice
  have HA := Lib.hid h
  have hlI : (L.length : Int) ≤ 2147483647 := by omega
  clear h hL
  go_enter Tryz.func30, Tryz.ntmps30
  go_wp2_with fail
  go_loopw [10] (fun v10 wr => ∃ k : Nat, v10 = .int .i64 (k : Int) ∧ k ≤ L.length ∧ Below w.heap.size w wr) (fun v10 _ => L.length - (intOf v10).toNat)
  case atStart => exact ⟨0, rfl, Nat.zero_le _, Below.refl _ _⟩
  case round =>
    obtain ⟨k, rfl, hk, hB⟩ := hrel
    by_cases hlt : k < L.length
    · rcases HA.out with ⟨hnil, -⟩ | ⟨b, off, cap, hv, hb, hc⟩
      · rw [hnil] at hlt; simp at hlt
      · obtain ⟨rfl, -⟩ : pv = some ⟨b, off, none⟩ ∧ capv = cap := by simpa using hv
        obtain ⟨c0, c1, c2⟩ := hc k hlt
        rw [← hB.cell hb] at c0
        rw [← hB.cell hb] at c1
        rw [← hB.cell hb] at c2
        obtain ⟨t, ht⟩ : ∃ t, t = L[k].text := ⟨_, rfl⟩
        obtain ⟨x, hx⟩ : ∃ x, x = L[k].sync := ⟨_, rfl⟩
        obtain ⟨y, hy⟩ : ∃ y, y = L[k].stop := ⟨_, rfl⟩
        rw [← ht] at c0
        rw [← hx] at c1
        rw [← hy] at c2
        have hkI : (k : Int) < (L.length : Int) := by omega
        have Hf := Lib.hid (fun w => fits13_any t x y w)
        have HS := Lib.hid (And.intro hB hlt)
        clear hB ht hx hy hc hb hv
        go_wp2_with fail
        go_at_call 61
        refine (Hf.out _).mono ?_
        rintro r w2 ⟨b, rfl, hb2⟩
        have hb3 : Below w.heap.size w w2 := HS.out.1.trans ((((Below.refl _ wr).alloc (Nat.le_refl _) _).trans (hb2.mono (by simp))).mono HS.out.1.size)
        have H2 := Lib.hid hb3
        clear hb2 hb3
        cases b
        · go_wp2
          go_ret
          exact ⟨_, rfl, H2.out⟩
        · go_wp2
          exact ⟨⟨k + 1, by go_num, HS.out.2, H2.out⟩, by have := HS.out.2; simp [intOf]; omega⟩
    · have hge : (L.length : Int) ≤ (k : Int) := by omega
      have HS := Lib.hid hB
      clear hB hlt hk
      go_wp2
      go_ret
      exact ⟨_, rfl, HS.out⟩

set_option maxRecDepth 100000 in
set_option maxHeartbeats 2000000 in
/-- zSameTexts of the same texts. -/
theorem same_any {B1 B2 : Nat} (v1 v2 : Value) (xs : List ByteArray) (w : World) (h1 : w.ownsRow B1 9 1 v1 xs.length (xs.map .string)) (h2 : w.ownsRow B2 9 1 v2 xs.length (xs.map .string)) (hx : xs.length ≤ 100000) :
    Calls Tryz.prog 31 #[v1, v2] w fun r w' => r = .returned (.bool true) ∧ Below w.heap.size w w' := by
  obtain ⟨p1, k1, rfl⟩ := slice_of_own h1
  obtain ⟨p2, k2, rfl⟩ := slice_of_own h2
  have HA := Lib.hid (And.intro h1 h2)
  have hlI : (xs.length : Int) ≤ 100000 := by omega
  clear h1 h2 hx
  go_enter Tryz.func31, Tryz.ntmps31
  go_wp2_with fail
  go_loopw [5] (fun v5 wr => ∃ k : Nat, v5 = .int .i64 (k : Int) ∧ k ≤ xs.length ∧ Below w.heap.size w wr) (fun v5 _ => xs.length - (intOf v5).toNat)
  case atStart => exact ⟨0, rfl, Nat.zero_le _, Below.refl _ _⟩
  case round =>
    obtain ⟨k, rfl, hk, hB⟩ := hrel
    by_cases hlt : k < xs.length
    · have g1 : ∃ g, p1 = some ⟨g, 0, none⟩ := by
        obtain ⟨_, ⟨h1, h2⟩ | ⟨g, cap, cur, h1, _⟩⟩ := HA.out.1
        · omega
        · simp at h1; exact ⟨g, h1.1⟩
      have g2 : ∃ g, p2 = some ⟨g, 0, none⟩ := by
        obtain ⟨_, ⟨h1, h2⟩ | ⟨g, cap, cur, h1, _⟩⟩ := HA.out.2
        · omega
        · simp at h1; exact ⟨g, h1.1⟩
      obtain ⟨a1, rfl⟩ := g1
      obtain ⟨a2, rfl⟩ := g2
      have c1 := (row_below HA.out.1 hB).cells rfl k (.string xs[k]) (by rw [List.getElem?_map, List.getElem?_eq_getElem hlt]; rfl)
      have c2 := (row_below HA.out.2 hB).cells rfl k (.string xs[k]) (by rw [List.getElem?_map, List.getElem?_eq_getElem hlt]; rfl)
      rw [add_lit] at c1
      rw [add_lit] at c2
      obtain ⟨t, ht⟩ : ∃ t, t = xs[k] := ⟨_, rfl⟩
      rw [← ht] at c1
      rw [← ht] at c2
      have hkI : (k : Int) < (xs.length : Int) := by omega
      have HS := Lib.hid (And.intro hB hlt)
      clear hB ht
      go_wp2_with fail
      go_quiet (fail)
      go_wp2
      exact ⟨⟨k + 1, by go_num, HS.out.2, zb_drewN HS.out.1 _⟩, by have := HS.out.2; simp [intOf]; omega⟩
    · have hge : (xs.length : Int) ≤ (k : Int) := by omega
      have HS := Lib.hid hB
      clear hB hlt hk
      go_wp2
      go_ret
      exact ⟨rfl, HS.out⟩
end Go.Proofs.YtchmhdmapknmfaaGreatDoor
