/-
  A moment as a Time. (Joined by merge.py out of several texts.)
-/
import Derived.Test.YtchmhdmapknmfaaGreatDoorXb
import Derived.Deep.RegionHeld3
import Derived.Deep.DrawnRows
import Derived.Laws.EntriesVeiled

/-
  A moment as a Time; the seconds of a Time.
-/
namespace Go.Proofs.YtchmhdmapknmfaaGreatDoor
open Go.RowKit Ly

set_option maxRecDepth 100000 in
set_option maxHeartbeats 1000000 in
theorem sec_any (e na off : Int) (Z : ByteArray) (w : World) : Calls Tryz.prog 170 #[tmV e na Z off] w fun r w' => r = .returned (.int .i64 e) ∧ Below w.heap.size w w' := by
  unfold tmV
  go_enter Tryz.func170, Tryz.ntmps170
  go_wp2
  go_ret
  exact ⟨rfl, (Below.refl _ w).alloc (Nat.le_refl _) _⟩

set_option maxRecDepth 100000 in
set_option maxHeartbeats 1000000 in
theorem unixSec_any (e na off : Int) (Z : ByteArray) (h0 : 0 ≤ e) (h1 : e < 1000000000000) (w : World) :
    Calls Tryz.prog 146 #[tmV e na Z off] w fun r w' => ∃ u : Int, r = .returned (.int .i64 u) ∧ u = e - 62135596800 ∧ Below w.heap.size w w' := by
  unfold tmV
  go_enter Tryz.func146, Tryz.ntmps146
  go_wp2_with (
    go_at_call 170; refine (sec_any e na off Z _).mono ?_; rintro r w' ⟨rfl, hb⟩
    have Hb := Lib.hid (((Below.refl w.heap.size w).alloc (Nat.le_refl _) _).trans (hb.mono (by simp)))
    clear hb)
  go_wp2
  go_ret
  exact ⟨_, rfl, by omega, Hb.out⟩

theorem tmCells (w : World) (e na off : Int) (Z : ByteArray) : ∀ w', Below (w.alloc (.cells #[.int .i64 e, .int .i32 na, .string Z, .int .i64 off] 96)).heap.size (w.alloc (.cells #[.int .i64 e, .int .i32 na, .string Z, .int .i64 off] 96)) w' →
    w'.cell? ⟨w.heap.size, 0, none⟩ = some (.int .i64 e) ∧ w'.cell? ⟨w.heap.size, 1, none⟩ = some (.int .i32 na) ∧ w'.cell? ⟨w.heap.size, 2, none⟩ = some (.string Z) ∧ w'.cell? ⟨w.heap.size, 3, none⟩ = some (.int .i64 off) := by
  intro w' hb
  have hc : ∀ i, w'.cell? ⟨w.heap.size, i, none⟩ = (w.alloc (.cells #[.int .i64 e, .int .i32 na, .string Z, .int .i64 off] 96)).cell? ⟨w.heap.size, i, none⟩ := fun i => hb.cell (by simp)
  refine ⟨?_, ?_, ?_, ?_⟩ <;> rw [hc] <;> simp only [World.cell?, World.alloc, Array.getElem?_push_size] <;> rfl

theorem below_same {B : Nat} {W0 W w' : World} (h : Below W.heap.size W w') (e : W.heap = W0.heap ∧ W.os = W0.os ∧ W.tape = W0.tape ∧ W.output = W0.output) (hB : B = W0.heap.size) : Below B W0 w' := by
  rw [e.1] at h
  subst hB
  exact ⟨h.os.trans e.2.1, h.tape.trans e.2.2.1, h.output.trans e.2.2.2, by rw [← e.1]; exact h.size, fun k hk => by rw [h.block k hk, e.1]⟩

set_option maxRecDepth 100000 in
set_option maxHeartbeats 4000000 in
theorem locabs_any (e na off : Int) (Z : ByteArray) (h0 : 0 ≤ e + off) (h1 : e < 1000000000000) (h2 : 0 ≤ e) (h3 : -86400 < off) (h4 : off < 86400) (w : World) :
    Calls Tryz.prog 154 #[tmV e na Z off] w fun r w' => ∃ A : Int, r = .returned (.tuple #[.string Z, .int .i64 off, .int .u64 A]) ∧ A = 9223371966606163200 + (e + off) ∧ Below w.heap.size w w' := by
  have HK := Lib.hid (fun W (he : W.heap = (w.alloc (.cells #[.int .i64 e, .int .i32 na, .string Z, .int .i64 off] 96)).heap ∧ W.os = w.os ∧ W.tape = w.tape ∧ W.output = w.output) =>
    (unixSec_any e na off Z h2 h1 W).mono (fun r w' (h : ∃ u : Int, r = .returned (.int .i64 u) ∧ u = e - 62135596800 ∧ Below W.heap.size W w') => (by
      obtain ⟨u, h5, h6, h7⟩ := h
      have h8 := below_same h7 (W0 := w.alloc (.cells #[.int .i64 e, .int .i32 na, .string Z, .int .i64 off] 96)) he rfl
      exact ⟨u, h5, h6, h8, tmCells w e na off Z _ h8⟩ : ∃ u : Int, r = .returned (.int .i64 u) ∧ u = e - 62135596800 ∧ Below (w.alloc (.cells #[.int .i64 e, .int .i32 na, .string Z, .int .i64 off] 96)).heap.size (w.alloc (.cells #[.int .i64 e, .int .i32 na, .string Z, .int .i64 off] 96)) w' ∧
        w'.cell? ⟨w.heap.size, 0, none⟩ = some (.int .i64 e) ∧ w'.cell? ⟨w.heap.size, 1, none⟩ = some (.int .i32 na) ∧ w'.cell? ⟨w.heap.size, 2, none⟩ = some (.string Z) ∧ w'.cell? ⟨w.heap.size, 3, none⟩ = some (.int .i64 off))))
  have HE := Lib.hid (And.intro h0 (And.intro h1 h2))
  clear h0 h1 h2
  unfold tmV
  go_enter Tryz.func154, Tryz.ntmps154
  go_wp2_with fail
  go_region_held3 (fun w' => w'.cell? ⟨w.heap.size, 0, none⟩ = some (.int .i64 e) ∧ w'.cell? ⟨w.heap.size, 1, none⟩ = some (.int .i32 na) ∧ w'.cell? ⟨w.heap.size, 2, none⟩ = some (.string Z) ∧ w'.cell? ⟨w.heap.size, 3, none⟩ = some (.int .i64 off)) (go_keep) (first
    | (go_at_call 146; refine (HK.out _ (by exact ⟨rfl, rfl, rfl, rfl⟩)).mono ?_; rintro r w' ⟨u, rfl, hu, hbel, d0, d1, d2, d3⟩; have Hu := Lib.hid hu; have Hbel := Lib.hid hbel; have u0 : -62135596800 ≤ u := (by have := HE.out; omega); have u1 : u < 1000000000000 := (by have := HE.out; omega); clear hu hbel))
  all_goals
    go_wp2
    go_ret3
    exact ⟨_, rfl, by have h1 := Hu.out; have h2 := HE.out; simp only [IntKind.wrap_i64, IntKind.wrap_u64]; omega, ((Below.refl _ w).alloc (Nat.le_refl _) _).trans (Hbel.out.mono (by simp))⟩

end Go.Proofs.YtchmhdmapknmfaaGreatDoor

/-
  time.Unix, In, momentOf.
-/
namespace Go.Proofs.YtchmhdmapknmfaaGreatDoor
open Go.RowKit Ly
attribute [local go_sem ↓] Go.wp_at_zero Go.wp_at_succ

theorem tFrozen4 {w : World} {b : Nat} {t : TypeId} {u0 u1 u2 u3 : Value} (h : w.heap[b]? = some (.cells #[u0, u1, u2, u3] t (0, 0))) (i : Nat) : w.frozen? ⟨b, i, none⟩ = false := by
  simp [World.frozen?, h]
theorem tPut4 {w : World} {b : Nat} {t : TypeId} {u0 u1 u2 u3 : Value} (h : w.heap[b]? = some (.cells #[u0, u1, u2, u3] t (0, 0))) (v0 v1 v2 v3 : Value) :
    ((((w.setCell ⟨b, 0, none⟩ v0).setCell ⟨b, 1, none⟩ v1).setCell ⟨b, 2, none⟩ v2).setCell ⟨b, 3, none⟩ v3).heap[b]? = some (.cells #[v0, v1, v2, v3] t (0, 0)) :=
  heap_set (cs := [v0, v1, v2, u3]) (heap_set (cs := [v0, v1, u2, u3]) (heap_set (cs := [v0, u1, u2, u3]) (heap_set (cs := [u0, u1, u2, u3]) h 0 v0) 1 v1) 2 v2) 3 v3

def utc : ByteArray := ⟨#[85, 84, 67]⟩

theorem tdiv_neg' {a k : Int} (h : a < 0) : a.tdiv k = -((-a) / k) := by
  have h1 := Int.neg_tdiv (-a) k
  have h2 := Int.tdiv_eq_ediv_of_nonneg (a := -a) (b := k) (by omega)
  rw [Int.neg_neg, h2] at h1
  exact h1

set_option maxRecDepth 100000 in
set_option maxHeartbeats 4000000 in
theorem unix_any (N : Int) (h1 : -9223372036854775808 ≤ N) (h2 : N ≤ 9223372036854775807) (w : World) :
    Calls Tryz.prog 44 #[.int .i64 0, .int .i64 N] w fun r w' => ∃ e na : Int, r = .returned (tmV e na utc 0) ∧ e = N / 1000000000 + 62135596800 ∧ na = N % 1000000000 ∧ Below w.heap.size w w' := by
  unfold tmV utc
  by_cases c1 : N < 0
  · obtain ⟨q, hq⟩ : ∃ q : Int, q = (-N) / 1000000000 := ⟨_, rfl⟩
    have hd : N.tdiv 1000000000 = -q := by rw [tdiv_neg' c1, hq]
    have q0 : 0 ≤ q := by omega
    have q1 : q ≤ 9223372036 := by omega
    have Hq := Lib.hid hq
    by_cases c2 : N - -q * 1000000000 < 0
    · have c3 : -1000000000 < N - -q * 1000000000 := by omega
      clear hq
      go_enter Tryz.func44, Tryz.ntmps44
      go_wp2
      refine bodyPost_ret (v := .agg #[.int .i64 (-q - 1 + 62135596800), .int .i32 (N - -q * 1000000000 + 1000000000), .string ⟨#[85, 84, 67]⟩, .int .i64 0]) (by simp [results, Tryz.results44, go_sem]) rfl ⟨_, _, rfl, ?_, ?_, (Below.refl _ w).alloc (Nat.le_refl _) _⟩
      · have := Hq.out; omega
      · have := Hq.out; omega
    · have c3 : 0 ≤ N - -q * 1000000000 := by omega
      have c4 : N - -q * 1000000000 < 1000000000 := by omega
      clear hq
      go_enter Tryz.func44, Tryz.ntmps44
      go_wp2
      refine bodyPost_ret (v := .agg #[.int .i64 (-q + 62135596800), .int .i32 (N - -q * 1000000000), .string ⟨#[85, 84, 67]⟩, .int .i64 0]) (by simp [results, Tryz.results44, go_sem]) rfl ⟨_, _, rfl, ?_, ?_, (Below.refl _ w).alloc (Nat.le_refl _) _⟩
      · have := Hq.out; omega
      · have := Hq.out; omega
  · have hd : N.tdiv 1000000000 = N / 1000000000 := Int.tdiv_eq_ediv_of_nonneg (by omega)
    by_cases c2 : N < 1000000000
    · have c3 : 0 ≤ N := by omega
      clear hd
      go_enter Tryz.func44, Tryz.ntmps44
      go_wp2
      refine bodyPost_ret (v := .agg #[.int .i64 (62135596800), .int .i32 (N), .string ⟨#[85, 84, 67]⟩, .int .i64 0]) (by simp [results, Tryz.results44, go_sem]) rfl ⟨_, _, rfl, ?_, ?_, (Below.refl _ w).alloc (Nat.le_refl _) _⟩
      · omega
      · omega
    · have c3 : 1000000000 ≤ N := by omega
      have c4 : 0 ≤ N - N / 1000000000 * 1000000000 := by omega
      have c5 : N - N / 1000000000 * 1000000000 < 1000000000 := by omega
      go_enter Tryz.func44, Tryz.ntmps44
      go_wp2
      refine bodyPost_ret (v := .agg #[.int .i64 (N / 1000000000 + 62135596800), .int .i32 (N - N / 1000000000 * 1000000000), .string ⟨#[85, 84, 67]⟩, .int .i64 0]) (by simp [results, Tryz.results44, go_sem]) rfl ⟨_, _, rfl, ?_, ?_, (Below.refl _ w).alloc (Nat.le_refl _) _⟩
      · rfl
      · omega

set_option maxRecDepth 100000 in
set_option maxHeartbeats 4000000 in
theorem in_any (te na : Int) (Z : ByteArray) (off : Int) (w : World) : Calls Tryz.prog 89 #[tmV te na utc 0, .string Z, .int .i64 off] w fun r w' => r = .returned (tmV te na Z off) ∧ Below w.heap.size w w' := by
  unfold tmV
  go_enter Tryz.func89, Tryz.ntmps89
  go_wp2
  exact bodyPost_ret (v := .agg #[.int .i64 te, .int .i32 na, .string Z, .int .i64 off]) (by simp [results, Tryz.results89, go_sem]) rfl ⟨rfl, ((Below.refl _ w).alloc (Nat.le_refl _) _).alloc (by simp) _⟩

/-- A moment. -/
def moV (zb : Bool) (N off : Int) (Z : ByteArray) : Value := .agg #[.bool zb, .int .i64 N, .int .i64 off, .string Z]

theorem mo_cells (w : World) (N off : Int) (Z : ByteArray) (zb : Bool) : ∀ w', Below (w.heap.size + 1) (w.alloc (.cells #[.bool zb, .int .i64 N, .int .i64 off, .string Z] 39)) w' →
    w'.cell? ⟨w.heap.size, 0, none⟩ = some (.bool zb) ∧ w'.cell? ⟨w.heap.size, 1, none⟩ = some (.int .i64 N) ∧ w'.cell? ⟨w.heap.size, 2, none⟩ = some (.int .i64 off) ∧ w'.cell? ⟨w.heap.size, 3, none⟩ = some (.string Z) := by
  intro w' hb
  have hc : ∀ i, w'.cell? ⟨w.heap.size, i, none⟩ = (w.alloc (.cells #[.bool zb, .int .i64 N, .int .i64 off, .string Z] 39)).cell? ⟨w.heap.size, i, none⟩ := fun i => hb.cell (by show w.heap.size < _; omega)
  refine ⟨?_, ?_, ?_, ?_⟩ <;> rw [hc] <;> simp only [World.cell?, World.alloc, Array.getElem?_push_size] <;> rfl

/-- What holds while momentOf makes a Time: the moment's block stands, the result's block has four cells. -/
def MoS (w : World) (N off : Int) (Z : ByteArray) (w' : World) : Prop :=
  Below (w.heap.size + 1) (w.alloc (.cells #[.bool false, .int .i64 N, .int .i64 off, .string Z] 39)) w' ∧ ∃ v0 v1 v2 v3, w'.heap[w.heap.size + 1]? = some (.cells #[v0, v1, v2, v3] 96 (0, 0))

theorem MoS.step {w w1 w2 : World} {N off : Int} {Z : ByteArray} (h : MoS w N off Z w1) (hb : Below w1.heap.size w1 w2) : MoS w N off Z w2 := by
  obtain ⟨h1, v0, v1, v2, v3, h2⟩ := h
  have hl := lt_of_block h2
  exact ⟨h1.trans (hb.mono (by omega)), v0, v1, v2, v3, by rw [hb.block _ hl]; exact h2⟩
theorem MoS.put {w w1 : World} {N off : Int} {Z : ByteArray} (h : MoS w N off Z w1) (a b c d : Value) :
    MoS w N off Z ((((w1.setCell ⟨w.heap.size + 1, 0, none⟩ a).setCell ⟨w.heap.size + 1, 1, none⟩ b).setCell ⟨w.heap.size + 1, 2, none⟩ c).setCell ⟨w.heap.size + 1, 3, none⟩ d) := by
  obtain ⟨h1, v0, v1, v2, v3, h2⟩ := h
  exact ⟨(((h1.setCell (p := ⟨w.heap.size + 1, 0, none⟩) (Nat.le_refl _) _).setCell (p := ⟨w.heap.size + 1, 1, none⟩) (Nat.le_refl _) _).setCell (p := ⟨w.heap.size + 1, 2, none⟩) (Nat.le_refl _) _).setCell (p := ⟨w.heap.size + 1, 3, none⟩) (Nat.le_refl _) _, a, b, c, d, tPut4 h2 a b c d⟩
theorem MoS.cells {w w1 : World} {N off : Int} {Z : ByteArray} (h : MoS w N off Z w1) : w1.cell? ⟨w.heap.size, 1, none⟩ = some (.int .i64 N) ∧ w1.cell? ⟨w.heap.size, 2, none⟩ = some (.int .i64 off) ∧ w1.cell? ⟨w.heap.size, 3, none⟩ = some (.string Z) :=
  (mo_cells w N off Z false w1 h.1).2

set_option maxRecDepth 100000 in
set_option maxHeartbeats 4000000 in
theorem moment_any (N off : Int) (Z : ByteArray) (w : World) (h1 : -9223372036854775808 ≤ N) (h2 : N ≤ 9223372036854775807) :
    Calls Tryz.prog 50 #[moV false N off Z] w fun r w' => ∃ te na : Int, r = .returned (tmV te na Z off) ∧ te = N / 1000000000 + 62135596800 ∧ na = N % 1000000000 ∧ Below w.heap.size w w' := by
  have hS0 : MoS w N off Z ((w.alloc (.cells #[.bool false, .int .i64 N, .int .i64 off, .string Z] 39)).alloc (.cells #[.int .i64 0, .int .i32 0, .string ⟨#[]⟩, .int .i64 0] 96)).drew := by
    refine ⟨((Below.refl _ _).alloc (by simp) _).drew, .int .i64 0, .int .i32 0, .string ⟨#[]⟩, .int .i64 0, ?_⟩
    have h3 := heap_alloc_new (w.alloc (.cells #[.bool false, .int .i64 N, .int .i64 off, .string Z] 39)) (.cells #[.int .i64 0, .int .i32 0, .string ⟨#[]⟩, .int .i64 0] 96)
    have e : (w.alloc (.cells #[.bool false, .int .i64 N, .int .i64 off, .string Z] 39)).heap.size = w.heap.size + 1 := by simp
    rw [e] at h3
    exact h3
  have Hu := Lib.hid (fun W (hW : MoS w N off Z W) => (unix_any N h1 h2 W).mono (fun r w' (h : ∃ e na : Int, r = .returned (tmV e na utc 0) ∧ e = N / 1000000000 + 62135596800 ∧ na = N % 1000000000 ∧ Below W.heap.size W w') => (by
    obtain ⟨e, na, h3, h4, h5, h6⟩ := h
    have h7 := hW.step h6
    obtain ⟨d1, d2, d3⟩ := h7.cells
    exact ⟨e, na, h3, h4, h5, h7, d1, d2, d3⟩ : ∃ e na : Int, r = .returned (.agg #[.int .i64 e, .int .i32 na, .string utc, .int .i64 0]) ∧ e = N / 1000000000 + 62135596800 ∧ na = N % 1000000000 ∧ MoS w N off Z w' ∧
      w'.cell? ⟨w.heap.size, 1, none⟩ = some (.int .i64 N) ∧ w'.cell? ⟨w.heap.size, 2, none⟩ = some (.int .i64 off) ∧ w'.cell? ⟨w.heap.size, 3, none⟩ = some (.string Z))))
  have Hi := Lib.hid (fun te na W (hW : MoS w N off Z W) => (in_any te na Z off W).mono (fun r w' (h : r = .returned (tmV te na Z off) ∧ Below W.heap.size W w') => (by
    obtain ⟨h3, h6⟩ := h
    have h7 := hW.step h6
    obtain ⟨d1, d2, d3⟩ := h7.cells
    obtain ⟨-, v0, v1, v2, v3, h8⟩ := id h7
    obtain ⟨z0, z1, z2, z3⟩ := cells4 h8
    exact ⟨v0, v1, v2, v3, h3, h7, d1, d2, d3, h8, z0, z1, z2, z3, tFrozen4 h8 0, tFrozen4 h8 1, tFrozen4 h8 2, tFrozen4 h8 3⟩ : ∃ v0 v1 v2 v3, r = .returned (.agg #[.int .i64 te, .int .i32 na, .string Z, .int .i64 off]) ∧ MoS w N off Z w' ∧
      w'.cell? ⟨w.heap.size, 1, none⟩ = some (.int .i64 N) ∧ w'.cell? ⟨w.heap.size, 2, none⟩ = some (.int .i64 off) ∧ w'.cell? ⟨w.heap.size, 3, none⟩ = some (.string Z) ∧ w'.heap[w.heap.size + 1]? = some (.cells #[v0, v1, v2, v3] 96 (0, 0)) ∧
      w'.cell? ⟨w.heap.size + 1, 0, none⟩ = some v0 ∧ w'.cell? ⟨w.heap.size + 1, 1, none⟩ = some v1 ∧ w'.cell? ⟨w.heap.size + 1, 2, none⟩ = some v2 ∧ w'.cell? ⟨w.heap.size + 1, 3, none⟩ = some v3 ∧
      w'.frozen? ⟨w.heap.size + 1, 0, none⟩ = false ∧ w'.frozen? ⟨w.heap.size + 1, 1, none⟩ = false ∧ w'.frozen? ⟨w.heap.size + 1, 2, none⟩ = false ∧ w'.frozen? ⟨w.heap.size + 1, 3, none⟩ = false)))
  unfold tmV at Hi
  clear h1 h2
  unfold moV
  go_enter Tryz.func50, Tryz.ntmps50
  go_wp2_with fail
  go_region_held3 (fun w' => w'.cell? ⟨w.heap.size, 1, none⟩ = some (.int .i64 N) ∧ w'.cell? ⟨w.heap.size, 2, none⟩ = some (.int .i64 off) ∧ w'.cell? ⟨w.heap.size, 3, none⟩ = some (.string Z) ∧ MoS w N off Z w') (first | (refine ⟨?_, ?_, ?_, MoS.put (by assumption) _ _ _ _⟩ <;> go_keep) | go_keep) (first
    | (go_at_call 44; refine (Hu.out _ (by assumption)).mono ?_; rintro r w' ⟨te, na, rfl, he, hn, hm, d1, d2, d3⟩; have He := Lib.hid he; have Hn := Lib.hid hn; clear he hn)
    | (go_at_call 89; refine (Hi.out _ _ _ (by assumption)).mono ?_; rintro r w' ⟨v0, v1, v2, v3, rfl, hm, d1, d2, d3, hz, z0, z1, z2, z3, y0, y1, y2, y3⟩))
  all_goals
    have hm2 := MoS.put hm (.int .i64 te) (.int .i32 na) (.string Z) (.int .i64 off)
    obtain ⟨r0, r1, r2, r3⟩ := cells4 (tPut4 hz (.int .i64 te) (.int .i32 na) (.string Z) (.int .i64 off))
    clear z0 z1 z2 z3 y0 y1 y2 y3
    go_wp2
    exact bodyPost_ret (v := .agg #[.int .i64 te, .int .i32 na, .string Z, .int .i64 off]) (by simp [results, Tryz.results50, go_sem, r0, r1, r2, r3]) rfl ⟨te, na, rfl, He.out, Hn.out, ((Below.refl _ w).alloc (Nat.le_refl _) _).trans (hm2.1.mono (by omega))⟩
end Go.Proofs.YtchmhdmapknmfaaGreatDoor
