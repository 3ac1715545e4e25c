/-
  Joined: Kc Kd Ma Md. (Joined by merge.py out of several texts.)
-/
import Derived.Test.YtchmhdmapknmfaaGreatDoorYb
import Derived.Deep.RegionHeld3
import Derived.Deep.DrawnRows
import Derived.Laws.EntriesVeiled
import Derived.Test.YtchmhdmapknmfaaGreatDoorHe

/-
  A moment as a Time; the seconds of a Time.
-/
namespace Go.Proofs.YtchmhdmapknmfaaGreatDoor
open Go.RowKit Ly

set_option maxRecDepth 100000 in
set_option maxHeartbeats 1000000 in
theorem sec_any (e na off : Int) (Z : ByteArray) (w : World) : Calls Tryz.prog 170 #[tmV e na Z off] w fun r w' => r = .returned (.int .i64 e) ∧ Below w.heap.size w w' := by
  unfold tmV
  go_enter Tryz.func170, Tryz.ntmps170
  go_wp2
  go_ret
  exact ⟨rfl, (Below.refl _ w).alloc (Nat.le_refl _) _⟩

set_option maxRecDepth 100000 in
set_option maxHeartbeats 1000000 in
theorem unixSec_any (e na off : Int) (Z : ByteArray) (h0 : 0 ≤ e) (h1 : e < 1000000000000) (w : World) :
    Calls Tryz.prog 146 #[tmV e na Z off] w fun r w' => ∃ u : Int, r = .returned (.int .i64 u) ∧ u = e - 62135596800 ∧ Below w.heap.size w w' := by
  unfold tmV
  go_enter Tryz.func146, Tryz.ntmps146
  go_wp2_with (
    go_at_call 170; refine (sec_any e na off Z _).mono ?_; rintro r w' ⟨rfl, hb⟩
    have Hb := Lib.hid (((Below.refl w.heap.size w).alloc (Nat.le_refl _) _).trans (hb.mono (by simp)))
    clear hb)
  go_wp2
  go_ret
  exact ⟨_, rfl, by omega, Hb.out⟩

theorem tmCells (w : World) (e na off : Int) (Z : ByteArray) : ∀ w', Below (w.alloc (.cells #[.int .i64 e, .int .i32 na, .string Z, .int .i64 off] 96)).heap.size (w.alloc (.cells #[.int .i64 e, .int .i32 na, .string Z, .int .i64 off] 96)) w' →
    w'.cell? ⟨w.heap.size, 0, none⟩ = some (.int .i64 e) ∧ w'.cell? ⟨w.heap.size, 1, none⟩ = some (.int .i32 na) ∧ w'.cell? ⟨w.heap.size, 2, none⟩ = some (.string Z) ∧ w'.cell? ⟨w.heap.size, 3, none⟩ = some (.int .i64 off) := by
  intro w' hb
  have hc : ∀ i, w'.cell? ⟨w.heap.size, i, none⟩ = (w.alloc (.cells #[.int .i64 e, .int .i32 na, .string Z, .int .i64 off] 96)).cell? ⟨w.heap.size, i, none⟩ := fun i => hb.cell (by simp)
  refine ⟨?_, ?_, ?_, ?_⟩ <;> rw [hc] <;> simp only [World.cell?, World.alloc, Array.getElem?_push_size] <;> rfl

theorem below_same {B : Nat} {W0 W w' : World} (h : Below W.heap.size W w') (e : W.heap = W0.heap ∧ W.os = W0.os ∧ W.tape = W0.tape ∧ W.output = W0.output) (hB : B = W0.heap.size) : Below B W0 w' := by
  rw [e.1] at h
  subst hB
  exact ⟨h.os.trans e.2.1, h.tape.trans e.2.2.1, h.output.trans e.2.2.2, by rw [← e.1]; exact h.size, fun k hk => by rw [h.block k hk, e.1]⟩

set_option maxRecDepth 100000 in
set_option maxHeartbeats 4000000 in
theorem locabs_any (e na off : Int) (Z : ByteArray) (h0 : 0 ≤ e + off) (h1 : e < 1000000000000) (h2 : 0 ≤ e) (h3 : -86400 < off) (h4 : off < 86400) (w : World) :
    Calls Tryz.prog 154 #[tmV e na Z off] w fun r w' => ∃ A : Int, r = .returned (.tuple #[.string Z, .int .i64 off, .int .u64 A]) ∧ A = 9223371966606163200 + (e + off) ∧ Below w.heap.size w w' := by
  have HK := Lib.hid (fun W (he : W.heap = (w.alloc (.cells #[.int .i64 e, .int .i32 na, .string Z, .int .i64 off] 96)).heap ∧ W.os = w.os ∧ W.tape = w.tape ∧ W.output = w.output) =>
    (unixSec_any e na off Z h2 h1 W).mono (fun r w' (h : ∃ u : Int, r = .returned (.int .i64 u) ∧ u = e - 62135596800 ∧ Below W.heap.size W w') => (by
      obtain ⟨u, h5, h6, h7⟩ := h
      have h8 := below_same h7 (W0 := w.alloc (.cells #[.int .i64 e, .int .i32 na, .string Z, .int .i64 off] 96)) he rfl
      exact ⟨u, h5, h6, h8, tmCells w e na off Z _ h8⟩ : ∃ u : Int, r = .returned (.int .i64 u) ∧ u = e - 62135596800 ∧ Below (w.alloc (.cells #[.int .i64 e, .int .i32 na, .string Z, .int .i64 off] 96)).heap.size (w.alloc (.cells #[.int .i64 e, .int .i32 na, .string Z, .int .i64 off] 96)) w' ∧
        w'.cell? ⟨w.heap.size, 0, none⟩ = some (.int .i64 e) ∧ w'.cell? ⟨w.heap.size, 1, none⟩ = some (.int .i32 na) ∧ w'.cell? ⟨w.heap.size, 2, none⟩ = some (.string Z) ∧ w'.cell? ⟨w.heap.size, 3, none⟩ = some (.int .i64 off))))
  have HE := Lib.hid (And.intro h0 (And.intro h1 h2))
  clear h0 h1 h2
  unfold tmV
  go_enter Tryz.func154, Tryz.ntmps154
  go_wp2_with fail
  go_region_held3 (fun w' => w'.cell? ⟨w.heap.size, 0, none⟩ = some (.int .i64 e) ∧ w'.cell? ⟨w.heap.size, 1, none⟩ = some (.int .i32 na) ∧ w'.cell? ⟨w.heap.size, 2, none⟩ = some (.string Z) ∧ w'.cell? ⟨w.heap.size, 3, none⟩ = some (.int .i64 off)) (go_keep) (first
    | (go_at_call 146; refine (HK.out _ (by exact ⟨rfl, rfl, rfl, rfl⟩)).mono ?_; rintro r w' ⟨u, rfl, hu, hbel, d0, d1, d2, d3⟩; have Hu := Lib.hid hu; have Hbel := Lib.hid hbel; have u0 : -62135596800 ≤ u := (by have := HE.out; omega); have u1 : u < 1000000000000 := (by have := HE.out; omega); clear hu hbel))
  all_goals
    go_wp2
    go_ret3
    exact ⟨_, rfl, by have h1 := Hu.out; have h2 := HE.out; simp only [IntKind.wrap_i64, IntKind.wrap_u64]; omega, ((Below.refl _ w).alloc (Nat.le_refl _) _).trans (Hbel.out.mono (by simp))⟩

end Go.Proofs.YtchmhdmapknmfaaGreatDoor

/-
  time.Unix, In, momentOf.
-/
namespace Go.Proofs.YtchmhdmapknmfaaGreatDoor
open Go.RowKit Ly
attribute [local go_sem ↓] Go.wp_at_zero Go.wp_at_succ

theorem tFrozen4 {w : World} {b : Nat} {t : TypeId} {u0 u1 u2 u3 : Value} (h : w.heap[b]? = some (.cells #[u0, u1, u2, u3] t (0, 0))) (i : Nat) : w.frozen? ⟨b, i, none⟩ = false := by
  simp [World.frozen?, h]
theorem tPut4 {w : World} {b : Nat} {t : TypeId} {u0 u1 u2 u3 : Value} (h : w.heap[b]? = some (.cells #[u0, u1, u2, u3] t (0, 0))) (v0 v1 v2 v3 : Value) :
    ((((w.setCell ⟨b, 0, none⟩ v0).setCell ⟨b, 1, none⟩ v1).setCell ⟨b, 2, none⟩ v2).setCell ⟨b, 3, none⟩ v3).heap[b]? = some (.cells #[v0, v1, v2, v3] t (0, 0)) :=
  heap_set (cs := [v0, v1, v2, u3]) (heap_set (cs := [v0, v1, u2, u3]) (heap_set (cs := [v0, u1, u2, u3]) (heap_set (cs := [u0, u1, u2, u3]) h 0 v0) 1 v1) 2 v2) 3 v3

def utc : ByteArray := ⟨#[85, 84, 67]⟩

theorem tdiv_neg' {a k : Int} (h : a < 0) : a.tdiv k = -((-a) / k) := by
  have h1 := Int.neg_tdiv (-a) k
  have h2 := Int.tdiv_eq_ediv_of_nonneg (a := -a) (b := k) (by omega)
  rw [Int.neg_neg, h2] at h1
  exact h1

set_option maxRecDepth 100000 in
set_option maxHeartbeats 4000000 in
theorem unix_any (N : Int) (h1 : -9223372036854775808 ≤ N) (h2 : N ≤ 9223372036854775807) (w : World) :
    Calls Tryz.prog 44 #[.int .i64 0, .int .i64 N] w fun r w' => ∃ e na : Int, r = .returned (tmV e na utc 0) ∧ e = N / 1000000000 + 62135596800 ∧ na = N % 1000000000 ∧ Below w.heap.size w w' := by
  unfold tmV utc
  by_cases c1 : N < 0
  · obtain ⟨q, hq⟩ : ∃ q : Int, q = (-N) / 1000000000 := ⟨_, rfl⟩
    have hd : N.tdiv 1000000000 = -q := by rw [tdiv_neg' c1, hq]
    have q0 : 0 ≤ q := by omega
    have q1 : q ≤ 9223372036 := by omega
    have Hq := Lib.hid hq
    by_cases c2 : N - -q * 1000000000 < 0
    · have c3 : -1000000000 < N - -q * 1000000000 := by omega
      clear hq
      go_enter Tryz.func44, Tryz.ntmps44
      go_wp2
      refine bodyPost_ret (v := .agg #[.int .i64 (-q - 1 + 62135596800), .int .i32 (N - -q * 1000000000 + 1000000000), .string ⟨#[85, 84, 67]⟩, .int .i64 0]) (by simp [results, Tryz.results44, go_sem]) rfl ⟨_, _, rfl, ?_, ?_, (Below.refl _ w).alloc (Nat.le_refl _) _⟩
      · have := Hq.out; omega
      · have := Hq.out; omega
    · have c3 : 0 ≤ N - -q * 1000000000 := by omega
      have c4 : N - -q * 1000000000 < 1000000000 := by omega
      clear hq
      go_enter Tryz.func44, Tryz.ntmps44
      go_wp2
      refine bodyPost_ret (v := .agg #[.int .i64 (-q + 62135596800), .int .i32 (N - -q * 1000000000), .string ⟨#[85, 84, 67]⟩, .int .i64 0]) (by simp [results, Tryz.results44, go_sem]) rfl ⟨_, _, rfl, ?_, ?_, (Below.refl _ w).alloc (Nat.le_refl _) _⟩
      · have := Hq.out; omega
      · have := Hq.out; omega
  · have hd : N.tdiv 1000000000 = N / 1000000000 := Int.tdiv_eq_ediv_of_nonneg (by omega)
    by_cases c2 : N < 1000000000
    · have c3 : 0 ≤ N := by omega
      clear hd
      go_enter Tryz.func44, Tryz.ntmps44
      go_wp2
      refine bodyPost_ret (v := .agg #[.int .i64 (62135596800), .int .i32 (N), .string ⟨#[85, 84, 67]⟩, .int .i64 0]) (by simp [results, Tryz.results44, go_sem]) rfl ⟨_, _, rfl, ?_, ?_, (Below.refl _ w).alloc (Nat.le_refl _) _⟩
      · omega
      · omega
    · have c3 : 1000000000 ≤ N := by omega
      have c4 : 0 ≤ N - N / 1000000000 * 1000000000 := by omega
      have c5 : N - N / 1000000000 * 1000000000 < 1000000000 := by omega
      go_enter Tryz.func44, Tryz.ntmps44
      go_wp2
      refine bodyPost_ret (v := .agg #[.int .i64 (N / 1000000000 + 62135596800), .int .i32 (N - N / 1000000000 * 1000000000), .string ⟨#[85, 84, 67]⟩, .int .i64 0]) (by simp [results, Tryz.results44, go_sem]) rfl ⟨_, _, rfl, ?_, ?_, (Below.refl _ w).alloc (Nat.le_refl _) _⟩
      · rfl
      · omega

set_option maxRecDepth 100000 in
set_option maxHeartbeats 4000000 in
theorem in_any (te na : Int) (Z : ByteArray) (off : Int) (w : World) : Calls Tryz.prog 89 #[tmV te na utc 0, .string Z, .int .i64 off] w fun r w' => r = .returned (tmV te na Z off) ∧ Below w.heap.size w w' := by
  unfold tmV
  go_enter Tryz.func89, Tryz.ntmps89
  go_wp2
  exact bodyPost_ret (v := .agg #[.int .i64 te, .int .i32 na, .string Z, .int .i64 off]) (by simp [results, Tryz.results89, go_sem]) rfl ⟨rfl, ((Below.refl _ w).alloc (Nat.le_refl _) _).alloc (by simp) _⟩

/-- A moment. -/
def moV (zb : Bool) (N off : Int) (Z : ByteArray) : Value := .agg #[.bool zb, .int .i64 N, .int .i64 off, .string Z]

theorem mo_cells (w : World) (N off : Int) (Z : ByteArray) (zb : Bool) : ∀ w', Below (w.heap.size + 1) (w.alloc (.cells #[.bool zb, .int .i64 N, .int .i64 off, .string Z] 39)) w' →
    w'.cell? ⟨w.heap.size, 0, none⟩ = some (.bool zb) ∧ w'.cell? ⟨w.heap.size, 1, none⟩ = some (.int .i64 N) ∧ w'.cell? ⟨w.heap.size, 2, none⟩ = some (.int .i64 off) ∧ w'.cell? ⟨w.heap.size, 3, none⟩ = some (.string Z) := by
  intro w' hb
  have hc : ∀ i, w'.cell? ⟨w.heap.size, i, none⟩ = (w.alloc (.cells #[.bool zb, .int .i64 N, .int .i64 off, .string Z] 39)).cell? ⟨w.heap.size, i, none⟩ := fun i => hb.cell (by show w.heap.size < _; omega)
  refine ⟨?_, ?_, ?_, ?_⟩ <;> rw [hc] <;> simp only [World.cell?, World.alloc, Array.getElem?_push_size] <;> rfl

/-- What holds while momentOf makes a Time: the moment's block stands, the result's block has four cells. -/
def MoS (w : World) (N off : Int) (Z : ByteArray) (w' : World) : Prop :=
  Below (w.heap.size + 1) (w.alloc (.cells #[.bool false, .int .i64 N, .int .i64 off, .string Z] 39)) w' ∧ ∃ v0 v1 v2 v3, w'.heap[w.heap.size + 1]? = some (.cells #[v0, v1, v2, v3] 96 (0, 0))

theorem MoS.step {w w1 w2 : World} {N off : Int} {Z : ByteArray} (h : MoS w N off Z w1) (hb : Below w1.heap.size w1 w2) : MoS w N off Z w2 := by
  obtain ⟨h1, v0, v1, v2, v3, h2⟩ := h
  have hl := lt_of_block h2
  exact ⟨h1.trans (hb.mono (by omega)), v0, v1, v2, v3, by rw [hb.block _ hl]; exact h2⟩
theorem MoS.put {w w1 : World} {N off : Int} {Z : ByteArray} (h : MoS w N off Z w1) (a b c d : Value) :
    MoS w N off Z ((((w1.setCell ⟨w.heap.size + 1, 0, none⟩ a).setCell ⟨w.heap.size + 1, 1, none⟩ b).setCell ⟨w.heap.size + 1, 2, none⟩ c).setCell ⟨w.heap.size + 1, 3, none⟩ d) := by
  obtain ⟨h1, v0, v1, v2, v3, h2⟩ := h
  exact ⟨(((h1.setCell (p := ⟨w.heap.size + 1, 0, none⟩) (Nat.le_refl _) _).setCell (p := ⟨w.heap.size + 1, 1, none⟩) (Nat.le_refl _) _).setCell (p := ⟨w.heap.size + 1, 2, none⟩) (Nat.le_refl _) _).setCell (p := ⟨w.heap.size + 1, 3, none⟩) (Nat.le_refl _) _, a, b, c, d, tPut4 h2 a b c d⟩
theorem MoS.cells {w w1 : World} {N off : Int} {Z : ByteArray} (h : MoS w N off Z w1) : w1.cell? ⟨w.heap.size, 1, none⟩ = some (.int .i64 N) ∧ w1.cell? ⟨w.heap.size, 2, none⟩ = some (.int .i64 off) ∧ w1.cell? ⟨w.heap.size, 3, none⟩ = some (.string Z) :=
  (mo_cells w N off Z false w1 h.1).2

set_option maxRecDepth 100000 in
set_option maxHeartbeats 4000000 in
theorem moment_any (N off : Int) (Z : ByteArray) (w : World) (h1 : -9223372036854775808 ≤ N) (h2 : N ≤ 9223372036854775807) :
    Calls Tryz.prog 50 #[moV false N off Z] w fun r w' => ∃ te na : Int, r = .returned (tmV te na Z off) ∧ te = N / 1000000000 + 62135596800 ∧ na = N % 1000000000 ∧ Below w.heap.size w w' := by
  have hS0 : MoS w N off Z ((w.alloc (.cells #[.bool false, .int .i64 N, .int .i64 off, .string Z] 39)).alloc (.cells #[.int .i64 0, .int .i32 0, .string ⟨#[]⟩, .int .i64 0] 96)).drew := by
    refine ⟨((Below.refl _ _).alloc (by simp) _).drew, .int .i64 0, .int .i32 0, .string ⟨#[]⟩, .int .i64 0, ?_⟩
    have h3 := heap_alloc_new (w.alloc (.cells #[.bool false, .int .i64 N, .int .i64 off, .string Z] 39)) (.cells #[.int .i64 0, .int .i32 0, .string ⟨#[]⟩, .int .i64 0] 96)
    have e : (w.alloc (.cells #[.bool false, .int .i64 N, .int .i64 off, .string Z] 39)).heap.size = w.heap.size + 1 := by simp
    rw [e] at h3
    exact h3
  have Hu := Lib.hid (fun W (hW : MoS w N off Z W) => (unix_any N h1 h2 W).mono (fun r w' (h : ∃ e na : Int, r = .returned (tmV e na utc 0) ∧ e = N / 1000000000 + 62135596800 ∧ na = N % 1000000000 ∧ Below W.heap.size W w') => (by
    obtain ⟨e, na, h3, h4, h5, h6⟩ := h
    have h7 := hW.step h6
    obtain ⟨d1, d2, d3⟩ := h7.cells
    exact ⟨e, na, h3, h4, h5, h7, d1, d2, d3⟩ : ∃ e na : Int, r = .returned (.agg #[.int .i64 e, .int .i32 na, .string utc, .int .i64 0]) ∧ e = N / 1000000000 + 62135596800 ∧ na = N % 1000000000 ∧ MoS w N off Z w' ∧
      w'.cell? ⟨w.heap.size, 1, none⟩ = some (.int .i64 N) ∧ w'.cell? ⟨w.heap.size, 2, none⟩ = some (.int .i64 off) ∧ w'.cell? ⟨w.heap.size, 3, none⟩ = some (.string Z))))
  have Hi := Lib.hid (fun te na W (hW : MoS w N off Z W) => (in_any te na Z off W).mono (fun r w' (h : r = .returned (tmV te na Z off) ∧ Below W.heap.size W w') => (by
    obtain ⟨h3, h6⟩ := h
    have h7 := hW.step h6
    obtain ⟨d1, d2, d3⟩ := h7.cells
    obtain ⟨-, v0, v1, v2, v3, h8⟩ := id h7
    obtain ⟨z0, z1, z2, z3⟩ := cells4 h8
    exact ⟨v0, v1, v2, v3, h3, h7, d1, d2, d3, h8, z0, z1, z2, z3, tFrozen4 h8 0, tFrozen4 h8 1, tFrozen4 h8 2, tFrozen4 h8 3⟩ : ∃ v0 v1 v2 v3, r = .returned (.agg #[.int .i64 te, .int .i32 na, .string Z, .int .i64 off]) ∧ MoS w N off Z w' ∧
      w'.cell? ⟨w.heap.size, 1, none⟩ = some (.int .i64 N) ∧ w'.cell? ⟨w.heap.size, 2, none⟩ = some (.int .i64 off) ∧ w'.cell? ⟨w.heap.size, 3, none⟩ = some (.string Z) ∧ w'.heap[w.heap.size + 1]? = some (.cells #[v0, v1, v2, v3] 96 (0, 0)) ∧
      w'.cell? ⟨w.heap.size + 1, 0, none⟩ = some v0 ∧ w'.cell? ⟨w.heap.size + 1, 1, none⟩ = some v1 ∧ w'.cell? ⟨w.heap.size + 1, 2, none⟩ = some v2 ∧ w'.cell? ⟨w.heap.size + 1, 3, none⟩ = some v3 ∧
      w'.frozen? ⟨w.heap.size + 1, 0, none⟩ = false ∧ w'.frozen? ⟨w.heap.size + 1, 1, none⟩ = false ∧ w'.frozen? ⟨w.heap.size + 1, 2, none⟩ = false ∧ w'.frozen? ⟨w.heap.size + 1, 3, none⟩ = false)))
  unfold tmV at Hi
  clear h1 h2
  unfold moV
  go_enter Tryz.func50, Tryz.ntmps50
  go_wp2_with fail
  go_region_held3 (fun w' => w'.cell? ⟨w.heap.size, 1, none⟩ = some (.int .i64 N) ∧ w'.cell? ⟨w.heap.size, 2, none⟩ = some (.int .i64 off) ∧ w'.cell? ⟨w.heap.size, 3, none⟩ = some (.string Z) ∧ MoS w N off Z w') (first | (refine ⟨?_, ?_, ?_, MoS.put (by assumption) _ _ _ _⟩ <;> go_keep) | go_keep) (first
    | (go_at_call 44; refine (Hu.out _ (by assumption)).mono ?_; rintro r w' ⟨te, na, rfl, he, hn, hm, d1, d2, d3⟩; have He := Lib.hid he; have Hn := Lib.hid hn; clear he hn)
    | (go_at_call 89; refine (Hi.out _ _ _ (by assumption)).mono ?_; rintro r w' ⟨v0, v1, v2, v3, rfl, hm, d1, d2, d3, hz, z0, z1, z2, z3, y0, y1, y2, y3⟩))
  all_goals
    have hm2 := MoS.put hm (.int .i64 te) (.int .i32 na) (.string Z) (.int .i64 off)
    obtain ⟨r0, r1, r2, r3⟩ := cells4 (tPut4 hz (.int .i64 te) (.int .i32 na) (.string Z) (.int .i64 off))
    clear z0 z1 z2 z3 y0 y1 y2 y3
    go_wp2
    exact bodyPost_ret (v := .agg #[.int .i64 te, .int .i32 na, .string Z, .int .i64 off]) (by simp [results, Tryz.results50, go_sem, r0, r1, r2, r3]) rfl ⟨te, na, rfl, He.out, Hn.out, ((Below.refl _ w).alloc (Nat.le_refl _) _).trans (hm2.1.mono (by omega))⟩
end Go.Proofs.YtchmhdmapknmfaaGreatDoor

/-
  appendFormat: the frame of its loop (printed by gen_Ma.py).
-/
namespace Go.Proofs.YtchmhdmapknmfaaGreatDoor
open Go.RowKit

/-- The loop's frame: what the loop's variables hold; the other slots hold whatever they hold. -/
def Af (v : Value) (l : ByteArray) (p : Nat) (Z : ByteArray) (off A D y mo d yd h mi s : Int) (v18 v19 v20 v92 : Value) (a : Act) : Prop := ∃ f : Nat → Value, a = ⟨#[f 0, v, .string l, .pointer (some ⟨p, 0, none⟩), f 4, f 5, f 6, .string Z, .int .i64 off, .int .u64 A, .int .u64 D, .int .i64 y, .int .i64 mo, .int .i64 d, .int .i64 yd, .int .i64 h, .int .i64 mi, .int .i64 s, v18, v19, v20, f 21, f 22, f 23, f 24, f 25, f 26, f 27, f 28, f 29, f 30, f 31, f 32, f 33, f 34, f 35, f 36, f 37, f 38, f 39, f 40, f 41, f 42, f 43, f 44, f 45, f 46, f 47, f 48, f 49, f 50, f 51, f 52, f 53, f 54, f 55, f 56, f 57, f 58, f 59, f 60, f 61, f 62, f 63, f 64, f 65, f 66, f 67, f 68, f 69, f 70, f 71, f 72, f 73, f 74, f 75, f 76, f 77, f 78, f 79, f 80, f 81, f 82, f 83, f 84, f 85, f 86, f 87, f 88, f 89, f 90, f 91, v92, f 93, f 94, f 95, f 96, f 97, f 98, f 99, f 100, f 101, f 102, f 103, f 104, f 105, f 106, f 107, f 108, f 109, f 110, f 111, f 112, f 113, f 114, f 115, f 116, f 117, f 118, f 119, f 120, f 121, f 122, f 123, f 124, f 125, f 126, f 127, f 128, f 129, f 130, f 131, f 132, f 133, f 134, f 135, f 136, f 137, f 138, f 139, f 140, f 141, f 142, f 143, f 144, f 145, f 146, f 147, f 148, f 149, f 150, f 151, f 152, f 153, f 154, f 155, f 156, f 157, f 158, f 159, f 160, f 161, f 162, f 163, f 164, f 165, f 166, f 167, f 168, f 169, f 170, f 171, f 172, f 173, f 174, f 175, f 176, f 177, f 178, f 179, f 180, f 181, f 182, f 183, f 184, f 185, f 186, f 187, f 188, f 189, f 190, f 191, f 192, f 193, f 194, f 195, f 196, f 197, f 198, f 199, f 200, f 201, f 202, f 203, f 204, f 205, f 206, f 207, f 208, f 209, f 210, f 211, f 212, f 213, f 214, f 215, f 216, f 217, f 218, f 219, f 220, f 221, f 222, f 223, f 224, f 225, f 226, f 227, f 228, f 229, f 230, f 231, f 232, f 233, f 234, f 235, f 236, f 237, f 238, f 239, f 240, f 241, f 242, f 243, f 244, f 245, f 246, f 247, f 248, f 249, f 250, f 251, f 252, f 253, f 254, f 255, f 256, f 257, f 258, f 259, f 260, f 261, f 262, f 263, f 264, f 265, f 266, f 267, f 268, f 269, f 270, f 271, f 272, f 273, f 274, f 275, f 276, f 277, f 278, f 279, f 280, f 281, f 282, f 283, f 284, f 285, f 286, f 287, f 288, f 289, f 290, f 291, f 292, f 293, f 294, f 295, f 296, f 297, f 298, f 299, f 300, f 301, f 302, f 303, f 304, f 305, f 306, f 307, f 308, f 309, f 310, f 311, f 312, f 313, f 314, f 315, f 316, f 317, f 318, f 319, f 320, f 321, f 322, f 323, f 324, f 325, f 326, f 327, f 328, f 329, f 330, f 331, f 332, f 333, f 334, f 335, f 336, f 337, f 338, f 339, f 340, f 341, f 342, f 343, f 344, f 345, f 346, f 347, f 348, f 349, f 350, f 351, f 352, f 353, f 354, f 355, f 356, f 357, f 358, f 359, f 360, f 361, f 362, f 363, f 364, f 365, f 366, f 367, f 368, f 369, f 370, f 371, f 372, f 373, f 374, f 375, f 376, f 377, f 378, f 379, f 380, f 381, f 382, f 383, f 384, f 385, f 386, f 387, f 388, f 389, f 390, f 391, f 392], []⟩

def afRow (x1 x2 x3 x7 x8 x9 x10 x11 x12 x13 x14 x15 x16 x17 x18 x19 x20 x92 : Value) (f : Nat → Value) : List Value := [f 0, x1, x2, x3, f 4, f 5, f 6, x7, x8, x9, x10, x11, x12, x13, x14, x15, x16, x17, x18, x19, x20, f 21, f 22, f 23, f 24, f 25, f 26, f 27, f 28, f 29, f 30, f 31, f 32, f 33, f 34, f 35, f 36, f 37, f 38, f 39, f 40, f 41, f 42, f 43, f 44, f 45, f 46, f 47, f 48, f 49, f 50, f 51, f 52, f 53, f 54, f 55, f 56, f 57, f 58, f 59, f 60, f 61, f 62, f 63, f 64, f 65, f 66, f 67, f 68, f 69, f 70, f 71, f 72, f 73, f 74, f 75, f 76, f 77, f 78, f 79, f 80, f 81, f 82, f 83, f 84, f 85, f 86, f 87, f 88, f 89, f 90, f 91, x92, f 93, f 94, f 95, f 96, f 97, f 98, f 99, f 100, f 101, f 102, f 103, f 104, f 105, f 106, f 107, f 108, f 109, f 110, f 111, f 112, f 113, f 114, f 115, f 116, f 117, f 118, f 119, f 120, f 121, f 122, f 123, f 124, f 125, f 126, f 127, f 128, f 129, f 130, f 131, f 132, f 133, f 134, f 135, f 136, f 137, f 138, f 139, f 140, f 141, f 142, f 143, f 144, f 145, f 146, f 147, f 148, f 149, f 150, f 151, f 152, f 153, f 154, f 155, f 156, f 157, f 158, f 159, f 160, f 161, f 162, f 163, f 164, f 165, f 166, f 167, f 168, f 169, f 170, f 171, f 172, f 173, f 174, f 175, f 176, f 177, f 178, f 179, f 180, f 181, f 182, f 183, f 184, f 185, f 186, f 187, f 188, f 189, f 190, f 191, f 192, f 193, f 194, f 195, f 196, f 197, f 198, f 199, f 200, f 201, f 202, f 203, f 204, f 205, f 206, f 207, f 208, f 209, f 210, f 211, f 212, f 213, f 214, f 215, f 216, f 217, f 218, f 219, f 220, f 221, f 222, f 223, f 224, f 225, f 226, f 227, f 228, f 229, f 230, f 231, f 232, f 233, f 234, f 235, f 236, f 237, f 238, f 239, f 240, f 241, f 242, f 243, f 244, f 245, f 246, f 247, f 248, f 249, f 250, f 251, f 252, f 253, f 254, f 255, f 256, f 257, f 258, f 259, f 260, f 261, f 262, f 263, f 264, f 265, f 266, f 267, f 268, f 269, f 270, f 271, f 272, f 273, f 274, f 275, f 276, f 277, f 278, f 279, f 280, f 281, f 282, f 283, f 284, f 285, f 286, f 287, f 288, f 289, f 290, f 291, f 292, f 293, f 294, f 295, f 296, f 297, f 298, f 299, f 300, f 301, f 302, f 303, f 304, f 305, f 306, f 307, f 308, f 309, f 310, f 311, f 312, f 313, f 314, f 315, f 316, f 317, f 318, f 319, f 320, f 321, f 322, f 323, f 324, f 325, f 326, f 327, f 328, f 329, f 330, f 331, f 332, f 333, f 334, f 335, f 336, f 337, f 338, f 339, f 340, f 341, f 342, f 343, f 344, f 345, f 346, f 347, f 348, f 349, f 350, f 351, f 352, f 353, f 354, f 355, f 356, f 357, f 358, f 359, f 360, f 361, f 362, f 363, f 364, f 365, f 366, f 367, f 368, f 369, f 370, f 371, f 372, f 373, f 374, f 375, f 376, f 377, f 378, f 379, f 380, f 381, f 382, f 383, f 384, f 385, f 386, f 387, f 388, f 389, f 390, f 391, f 392]
theorem afRow_eq (f : Nat → Value) : (List.range 393).map f = afRow (f 1) (f 2) (f 3) (f 7) (f 8) (f 9) (f 10) (f 11) (f 12) (f 13) (f 14) (f 15) (f 16) (f 17) (f 18) (f 19) (f 20) (f 92) f := by kernel_rfl

theorem af_of {v : Value} {l : ByteArray} {p : Nat} {Z : ByteArray} {off A D y mo d yd h mi s : Int} {R : Array Value} (h1 : R.size = 393) (hR : [R.getD 1 undef, R.getD 2 undef, R.getD 3 undef, R.getD 7 undef, R.getD 8 undef, R.getD 9 undef, R.getD 10 undef, R.getD 11 undef, R.getD 12 undef, R.getD 13 undef, R.getD 14 undef, R.getD 15 undef, R.getD 16 undef, R.getD 17 undef] = [v, .string l, .pointer (some ⟨p, 0, none⟩), .string Z, .int .i64 off, .int .u64 A, .int .u64 D, .int .i64 y, .int .i64 mo, .int .i64 d, .int .i64 yd, .int .i64 h, .int .i64 mi, .int .i64 s]) : Af v l p Z off A D y mo d yd h mi s (R.getD 18 undef) (R.getD 19 undef) (R.getD 20 undef) (R.getD 92 undef) ⟨R, []⟩ := by
  simp only [List.cons.injEq, and_true] at hR
  obtain ⟨e1, e2, e3, e7, e8, e9, e10, e11, e12, e13, e14, e15, e16, e17⟩ := hR
  refine ⟨fun n => R.getD n undef, ?_⟩
  have e : R = (afRow (v) (.string l) (.pointer (some ⟨p, 0, none⟩)) (.string Z) (.int .i64 off) (.int .u64 A) (.int .u64 D) (.int .i64 y) (.int .i64 mo) (.int .i64 d) (.int .i64 yd) (.int .i64 h) (.int .i64 mi) (.int .i64 s) (R.getD 18 undef) (R.getD 19 undef) (R.getD 20 undef) (R.getD 92 undef) (fun n => R.getD n undef)).toArray := by
    have ee := afRow_eq (fun n => R.getD n undef)
    rw [e1, e2, e3, e7, e8, e9, e10, e11, e12, e13, e14, e15, e16, e17] at ee
    rw [← ee]
    apply Array.ext
    · simp [h1]
    · intro i hi hi2
      simp [Array.getD, hi]
  exact congrArg (fun x => (⟨x, []⟩ : Act)) e

theorem Af.at {v : Value} {l : ByteArray} {p : Nat} {Z : ByteArray} {off A D y mo d yd h mi s : Int} {a : Act} {v18 v19 v20 v92 w18 w19 w20 : Value} (H : Af v l p Z off A D y mo d yd h mi s v18 v19 v20 v92 a) (h18 : v18 = w18) (h19 : v19 = w19) (h20 : v20 = w20) : Af v l p Z off A D y mo d yd h mi s w18 w19 w20 v92 a := by
  subst h18 h19 h20
  exact H


/-- The round's code, and its pieces. -/
noncomputable def afRound : Code := match Tryz.f131.body with
  | some (.seq _ (.seq _ (.seq _ (.seq _ (.seq _ (.seq _ (.seq _ (.seq _ (.seq _ (.seq _ (.seq (.block _ (.loop c)) _))))))))))) => c
  | _ => .skip
noncomputable def afTest : Code := match afRound with
  | .seq c _ => c
  | _ => .skip
noncomputable def afIn : Code := match afRound with
  | .seq _ (.block _ c) => c
  | _ => .skip
noncomputable def afNext : Code := match afIn with
  | .seq c _ => c
  | _ => .skip
noncomputable def afPre : Code := match afIn with
  | .seq _ (.seq c _) => c
  | _ => .skip
noncomputable def afZero : Code := match afIn with
  | .seq _ (.seq _ (.seq c _)) => c
  | _ => .skip
noncomputable def afSuf : Code := match afIn with
  | .seq _ (.seq _ (.seq _ (.seq c _))) => c
  | _ => .skip
noncomputable def afDate : Code := match afIn with
  | .seq _ (.seq _ (.seq _ (.seq _ (.seq c _)))) => c
  | _ => .skip
noncomputable def afYday : Code := match afIn with
  | .seq _ (.seq _ (.seq _ (.seq _ (.seq _ (.seq c _))))) => c
  | _ => .skip
noncomputable def afClock : Code := match afIn with
  | .seq _ (.seq _ (.seq _ (.seq _ (.seq _ (.seq _ (.seq c _)))))) => c
  | _ => .skip
noncomputable def afSw : Code := match afIn with
  | .seq _ (.seq _ (.seq _ (.seq _ (.seq _ (.seq _ (.seq _ c)))))) => c
  | _ => .skip

theorem afRound_eq : afRound = .seq afTest (.block 1 afIn) := by kernel_rfl
theorem afIn_eq : afIn = .seq afNext (.seq afPre (.seq afZero (.seq afSuf (.seq afDate (.seq afYday (.seq afClock afSw)))))) := by kernel_rfl

theorem tdiv_below {a k : Int} (h : a < 0) : a.tdiv k = -((-a) / k) := by
  have h1 := Int.neg_tdiv (-a) k
  have h2 := Int.tdiv_eq_ediv_of_nonneg (a := -a) (b := k) (by omega)
  rw [Int.neg_neg, h2] at h1
  exact h1

theorem Gw.of_below {v : Value} {w w' : World} (h : Below w.heap.size w w') : Gw v w v w' := ⟨⟨h.os, h.tape, h.output, h.size, fun k hk _ => h.block k hk⟩, fun _ h => .inl h⟩

end Go.Proofs.YtchmhdmapknmfaaGreatDoor

/-
  appendFormat: the head of a round (printed by gen_Md.py).
-/
namespace Go.Proofs.YtchmhdmapknmfaaGreatDoor
open Go.RowKit

set_option maxRecDepth 100000 in
set_option maxHeartbeats 4000000 in
theorem af_more {p : Nat} {v : Value} {l Z : ByteArray} {off A D y mo d yd h mi s : Int} {v18 v19 v20 v92 : Value} {a : Act} {w : World} (Q : Exit → Act → World → Prop) (ha : Af v l p Z off A D y mo d yd h mi s v18 v19 v20 v92 a) (hl : 0 < l.size)
    (hQ : ∀ a' u18 u19 u20 u92, Af v l p Z off A D y mo d yd h mi s u18 u19 u20 u92 a' → Q .normal a' w) : Code.wp Tryz.prog afTest Q a w := by
  obtain ⟨f, rfl⟩ := ha
  have fz : l.toList.isEmpty = false := isEmpty_no hl
  clear hl
  conv => arg 2; whnf
  go_wp2
  exact hQ _ _ _ _ _ (af_of rfl (by kernel_rfl))

set_option maxRecDepth 100000 in
set_option maxHeartbeats 4000000 in
theorem af_done {p : Nat} {v : Value} {l Z : ByteArray} {off A D y mo d yd h mi s : Int} {v18 v19 v20 v92 : Value} {a : Act} {w : World} (Q : Exit → Act → World → Prop) (ha : Af v l p Z off A D y mo d yd h mi s v18 v19 v20 v92 a) (hl : l.size = 0)
    (hQ : ∀ a' u18 u19 u20 u92, Af v l p Z off A D y mo d yd h mi s u18 u19 u20 u92 a' → Q (.exit 0) a' w) : Code.wp Tryz.prog afTest Q a w := by
  obtain ⟨f, rfl⟩ := ha
  have fz : l.toList.isEmpty = true := isEmpty_yes hl
  clear hl
  conv => arg 2; whnf
  go_wp2
  exact hQ _ _ _ _ _ (af_of rfl (by kernel_rfl))

set_option maxRecDepth 100000 in
set_option maxHeartbeats 4000000 in
theorem af_next {p : Nat} {v : Value} {l Z : ByteArray} {off A D y mo d yd h mi s : Int} {v18 v19 v20 v92 : Value} {a : Act} {w : World} (Q : Exit → Act → World → Prop) (ha : Af v l p Z off A D y mo d yd h mi s v18 v19 v20 v92 a) (hl : l.size ≤ 1000) (h0 : Std0 w) (hH : 11 ≤ w.heap.size)
    (hQ : ∀ (i : Nat) (std : Int) (suf : ByteArray) a' w' u92, Af v l p Z off A D y mo d yd h mi s (.string (l.extract 0 i)) (.int .i64 std) (.string suf) u92 a' → Below w.heap.size w w' → i ≤ l.size → ((std = 0 ∧ i = l.size ∧ suf.size = 0 ∧ ∀ W, Ly.lay W (bts l) = bts l) ∨ (∃ q k, Ly.ck q = some (std, k) ∧ q.length ≤ l.size) ∧ suf.size < l.size ∧ ∀ W, Ly.lay W (bts l) = (bts l).take i ++ (W std ++ Ly.lay W (bts suf))) → Q .normal a' w') : Code.wp Tryz.prog afNext Q a w := by
  obtain ⟨f, rfl⟩ := ha
  have Hn := Lib.hid (nextStd l w hl h0 hH)
  clear hl h0 hH
  conv => arg 2; whnf
  go_wp2_with (go_at_call 162; refine Hn.out.mono ?_; rintro r w' ⟨hb, i, std, suf, rfl, hi, hp⟩; have Hb := Lib.hid hb; have Hi := Lib.hid hi; have Hp := Lib.hid hp; clear hb hi hp)
  go_wp2
  exact hQ _ _ _ _ _ _ ((af_of rfl (by kernel_rfl)).at (by kernel_rfl) (by kernel_rfl) (by kernel_rfl)) Hb.out Hi.out Hp.out

set_option maxRecDepth 100000 in
set_option maxHeartbeats 4000000 in
theorem af_pre {B p : Nat} {v : Value} {l Z : ByteArray} {off A D y mo d yd h mi s : Int} {v18 v19 v20 v92 : Value} {xs : List UInt8} {a : Act} {w : World} {pf : ByteArray} (Q : Exit → Act → World → Prop) (ha : Af v l p Z off A D y mo d yd h mi s v18 v19 v20 v92 a) (h18 : v18 = .string pf) (hb : BR B v xs w) (hx : xs.length + pf.size ≤ 900000) (hB : B ≤ w.heap.size)
    (hQ : ∀ v' a' w' u18 u19 u20 u92, Af v' l p Z off A D y mo d yd h mi s u18 u19 u20 u92 a' → u19 = v19 → u20 = v20 → BR B v' (xs ++ bts pf) w' → Gw v w v' w' → Q .normal a' w') : Code.wp Tryz.prog afPre Q a w := by
  obtain ⟨f, rfl⟩ := ha
  subst h18
  have Hb := Lib.hid hb
  have hx' := Lib.hid hx
  clear hb hx
  by_cases hp : pf.size = 0
  · have fz : pf.toList.isEmpty = true := isEmpty_yes hp
    have He := Lib.hid (show bts pf = [] from List.eq_nil_of_length_eq_zero (by rw [bts_length]; exact hp))
    clear hp
    conv => arg 2; whnf
    go_wp2
    exact hQ _ _ _ _ _ _ _ (af_of rfl (by kernel_rfl)) (by kernel_rfl) (by kernel_rfl) (by rw [He.out, List.append_nil]; exact Hb.out) (Gw.refl _ _)
  · have fz : pf.toList.isEmpty = false := isEmpty_no (by omega)
    clear hp
    conv => arg 2; whnf
    go_wp2_with (at_builtin; refine wpList_append_br_str rfl _ _ rfl rfl Hb.out pf rfl (by have := hx'.out; omega) hB ?_)
    intro v1 w1 hb1 hg1
    have Hb1 := Lib.hid hb1
    have Hg1 := Lib.hid hg1
    clear hb1 hg1
    go_wp2
    exact hQ _ _ _ _ _ _ _ (af_of rfl (by kernel_rfl)) (by kernel_rfl) (by kernel_rfl) Hb1.out Hg1.out

set_option maxRecDepth 100000 in
set_option maxHeartbeats 4000000 in
theorem af_zero {p : Nat} {v : Value} {l Z : ByteArray} {off A D y mo d yd h mi s : Int} {v18 v19 v20 v92 : Value} {a : Act} {w : World} (Q : Exit → Act → World → Prop) (ha : Af v l p Z off A D y mo d yd h mi s v18 v19 v20 v92 a) (h19 : v19 = .int .i64 0)
    (hQ : ∀ a' u18 u19 u20 u92, Af v l p Z off A D y mo d yd h mi s u18 u19 u20 u92 a' → Q (.exit 0) a' w) : Code.wp Tryz.prog afZero Q a w := by
  obtain ⟨f, rfl⟩ := ha
  subst h19
  conv => arg 2; whnf
  go_wp2
  exact hQ _ _ _ _ _ (af_of rfl (by kernel_rfl))

set_option maxRecDepth 100000 in
set_option maxHeartbeats 4000000 in
theorem af_code {p : Nat} {v : Value} {l Z : ByteArray} {off A D y mo d yd h mi s : Int} {v18 v19 v20 v92 : Value} {a : Act} {w : World} {std : Int} (Q : Exit → Act → World → Prop) (ha : Af v l p Z off A D y mo d yd h mi s v18 v19 v20 v92 a) (h19 : v19 = .int .i64 std) (hne : std ≠ 0)
    (hQ : ∀ a' u18 u19 u20 u92, Af v l p Z off A D y mo d yd h mi s u18 u19 u20 u92 a' → u19 = v19 → u20 = v20 → Q .normal a' w) : Code.wp Tryz.prog afZero Q a w := by
  obtain ⟨f, rfl⟩ := ha
  subst h19
  have f0 : (std == 0) = false := beq_eq_false_iff_ne.2 hne
  clear hne
  conv => arg 2; whnf
  go_wp2
  exact hQ _ _ _ _ _ (af_of rfl (by kernel_rfl)) (by kernel_rfl) (by kernel_rfl)

set_option maxRecDepth 100000 in
set_option maxHeartbeats 4000000 in
theorem af_suf {p : Nat} {v : Value} {l Z : ByteArray} {off A D y mo d yd h mi s : Int} {v18 v19 v20 v92 : Value} {a : Act} {w : World} {suf : ByteArray} (Q : Exit → Act → World → Prop) (ha : Af v l p Z off A D y mo d yd h mi s v18 v19 v20 v92 a) (h20 : v20 = .string suf)
    (hQ : ∀ a' u18 u19 u20 u92, Af v suf p Z off A D y mo d yd h mi s u18 u19 u20 u92 a' → u19 = v19 → Q .normal a' w) : Code.wp Tryz.prog afSuf Q a w := by
  obtain ⟨f, rfl⟩ := ha
  subst h20
  conv => arg 2; whnf
  go_wp2
  exact hQ _ _ _ _ _ (af_of rfl (by kernel_rfl)) (by kernel_rfl)

set_option maxRecDepth 100000 in
set_option maxHeartbeats 4000000 in
theorem af_date {p : Nat} {v : Value} {l Z : ByteArray} {off A D y mo d yd h mi s : Int} {v18 v19 v20 v92 : Value} {a : Act} {w : World} {m : Ly.Mo} {std : Int} {t na : Nat} (Q : Exit → Act → World → Prop) (ha : Af v l p Z off A D y mo d yd h mi s v18 v19 v20 v92 a) (h19 : v19 = .int .i64 std) (hM : m = Ly.moAt t na m.off m.zone) (hD : D = 106751990353932 + ((t / 86400 + 306 : Nat) : Int)) (hT : t < 100000000000) (hk : y = -1 ∨ y = (m.y : Int) ∧ mo = (m.mo : Int) ∧ d = (m.d : Int))
    (hQ : ∀ a' w' y' mo' d' u18 u19 u20 u92, Af v l p Z off A D y' mo' d' yd h mi s u18 u19 u20 u92 a' → u19 = v19 → (y' = -1 ∨ y' = (m.y : Int) ∧ mo' = (m.mo : Int) ∧ d' = (m.d : Int)) → (bits BinOp.and IntKind.i64 std 256 ≠ 0 → y' = (m.y : Int) ∧ mo' = (m.mo : Int) ∧ d' = (m.d : Int)) → w' = w → Q .normal a' w') : Code.wp Tryz.prog afDate Q a w := by
  obtain ⟨f, rfl⟩ := ha
  subst h19
  have HD := Lib.hid hD
  have HT := Lib.hid (show t / 86400 + 306 < 2000000 by omega)
  have HM := Lib.hid hM
  clear hD hT hM
  obtain ⟨bb, hbb⟩ : ∃ bb, bits BinOp.and IntKind.i64 std 256 = bb := ⟨_, rfl⟩
  rw [hbb] at hQ
  rcases hk with rfl | hk
  · by_cases hb : bb = 0
    · have f0 : (bb == 0) = true := beq_iff_eq.2 hb
      have Hb := Lib.hid hb
      clear hb
      conv => arg 2; whnf
      go_wp2
      exact hQ _ _ (-1) mo d _ _ _ _ (af_of rfl (by kernel_rfl)) (by kernel_rfl) (.inl rfl) (fun h => absurd Hb.out h) rfl
    · have f0 : (bb == 0) = false := beq_eq_false_iff_ne.2 hb
      clear hb
      conv => arg 2; whnf
      go_wp2_with (go_at_call 156; refine (date_any (t / 86400 + 306) D HD.out HT.out _).mono ?_; rintro r w1 ⟨y1, mo1, d1, rfl, h1, h2, h3, rfl⟩; have HR := Lib.hid (show y1 = (m.y : Int) ∧ mo1 = (m.mo : Int) ∧ d1 = (m.d : Int) by (rw [HM.out]; exact ⟨h1, h2, h3⟩)); clear h1 h2 h3)
      go_wp2
      exact hQ _ _ y1 mo1 d1 _ _ _ _ (af_of rfl (by kernel_rfl)) (by kernel_rfl) (.inr HR.out) (fun _ => HR.out) rfl
  · have hn : 0 ≤ y := by omega
    have Hk := Lib.hid hk
    clear hk
    conv => arg 2; whnf
    go_wp2
    exact hQ _ _ y mo d _ _ _ _ (af_of rfl (by kernel_rfl)) (by kernel_rfl) (.inr Hk.out) (fun _ => Hk.out) rfl

set_option maxRecDepth 100000 in
set_option maxHeartbeats 4000000 in
theorem af_yday {p : Nat} {v : Value} {l Z : ByteArray} {off A D y mo d yd h mi s : Int} {v18 v19 v20 v92 : Value} {a : Act} {w : World} {m : Ly.Mo} {std : Int} {t na : Nat} (Q : Exit → Act → World → Prop) (ha : Af v l p Z off A D y mo d yd h mi s v18 v19 v20 v92 a) (h19 : v19 = .int .i64 std) (hM : m = Ly.moAt t na m.off m.zone) (hD : D = 106751990353932 + ((t / 86400 + 306 : Nat) : Int)) (hT : t < 100000000000) (hC : 1 ≤ Ly.nsC (t / 86400 + 306)) (hk : yd = -1 ∨ yd = (m.yd : Int))
    (hQ : ∀ a' w' yd' u18 u19 u20 u92, Af v l p Z off A D y mo d yd' h mi s u18 u19 u20 u92 a' → u19 = v19 → (yd' = -1 ∨ yd' = (m.yd : Int)) → (bits BinOp.and IntKind.i64 std 512 ≠ 0 → yd' = (m.yd : Int)) → w' = w → Q .normal a' w') : Code.wp Tryz.prog afYday Q a w := by
  obtain ⟨f, rfl⟩ := ha
  subst h19
  have HD := Lib.hid hD
  have HT := Lib.hid (show t / 86400 < 1900000 by omega)
  have HC := Lib.hid hC
  have HM := Lib.hid hM
  clear hD hT hM hC
  obtain ⟨bb, hbb⟩ : ∃ bb, bits BinOp.and IntKind.i64 std 512 = bb := ⟨_, rfl⟩
  rw [hbb] at hQ
  rcases hk with rfl | hk
  · by_cases hb : bb = 0
    · have f0 : (bb == 0) = true := beq_iff_eq.2 hb
      have Hb := Lib.hid hb
      clear hb
      conv => arg 2; whnf
      go_wp2
      exact hQ _ _ (-1) _ _ _ _ (af_of rfl (by kernel_rfl)) (by kernel_rfl) (.inl rfl) (fun h => absurd Hb.out h) rfl
    · have f0 : (bb == 0) = false := beq_eq_false_iff_ne.2 hb
      clear hb
      conv => arg 2; whnf
      go_wp2_with (go_at_call 163; refine (yearYday_any (t / 86400) D HD.out HT.out HC.out _).mono ?_; rintro r w1 ⟨y1, yd1, rfl, h1, rfl⟩; have HR := Lib.hid (show yd1 = (m.yd : Int) by (rw [HM.out]; exact h1)); clear h1)
      go_wp2
      exact hQ _ _ yd1 _ _ _ _ (af_of rfl (by kernel_rfl)) (by kernel_rfl) (.inr HR.out) (fun _ => HR.out) rfl
  · have hn : 0 ≤ yd := by omega
    have Hk := Lib.hid hk
    clear hk
    conv => arg 2; whnf
    go_wp2
    exact hQ _ _ yd _ _ _ _ (af_of rfl (by kernel_rfl)) (by kernel_rfl) (.inr Hk.out) (fun _ => Hk.out) rfl

set_option maxRecDepth 100000 in
set_option maxHeartbeats 4000000 in
theorem af_clock {p : Nat} {v : Value} {l Z : ByteArray} {off A D y mo d yd h mi s : Int} {v18 v19 v20 v92 : Value} {a : Act} {w : World} {m : Ly.Mo} {std : Int} {t na : Nat} (Q : Exit → Act → World → Prop) (ha : Af v l p Z off A D y mo d yd h mi s v18 v19 v20 v92 a) (h19 : v19 = .int .i64 std) (hM : m = Ly.moAt t na m.off m.zone) (hD : A = 9223371966606163200 + (t : Int)) (hT : t < 100000000000) (hk : h = -1 ∨ h = (m.h : Int) ∧ mi = (m.mi : Int) ∧ s = (m.s : Int))
    (hQ : ∀ a' w' h' mi' s' u18 u19 u20 u92, Af v l p Z off A D y mo d yd h' mi' s' u18 u19 u20 u92 a' → u19 = v19 → (h' = -1 ∨ h' = (m.h : Int) ∧ mi' = (m.mi : Int) ∧ s' = (m.s : Int)) → (bits BinOp.and IntKind.i64 std 1024 ≠ 0 → h' = (m.h : Int) ∧ mi' = (m.mi : Int) ∧ s' = (m.s : Int)) → w' = w → Q .normal a' w') : Code.wp Tryz.prog afClock Q a w := by
  obtain ⟨f, rfl⟩ := ha
  subst h19
  have HD := Lib.hid hD
  have HT := Lib.hid hT
  have HM := Lib.hid hM
  clear hD hT hM
  obtain ⟨bb, hbb⟩ : ∃ bb, bits BinOp.and IntKind.i64 std 1024 = bb := ⟨_, rfl⟩
  rw [hbb] at hQ
  rcases hk with rfl | hk
  · by_cases hb : bb = 0
    · have f0 : (bb == 0) = true := beq_iff_eq.2 hb
      have Hb := Lib.hid hb
      clear hb
      conv => arg 2; whnf
      go_wp2
      exact hQ _ _ (-1) mi s _ _ _ _ (af_of rfl (by kernel_rfl)) (by kernel_rfl) (.inl rfl) (fun h => absurd Hb.out h) rfl
    · have f0 : (bb == 0) = false := beq_eq_false_iff_ne.2 hb
      clear hb
      conv => arg 2; whnf
      go_wp2_with (go_at_call 158; refine (clock_any t A HD.out HT.out _).mono ?_; rintro r w1 ⟨h1, mi1, s1, rfl, g1, g2, g3, rfl⟩; have HR := Lib.hid (show h1 = (m.h : Int) ∧ mi1 = (m.mi : Int) ∧ s1 = (m.s : Int) by (rw [HM.out]; exact ⟨g1, g2, g3⟩)); clear g1 g2 g3)
      go_wp2
      exact hQ _ _ h1 mi1 s1 _ _ _ _ (af_of rfl (by kernel_rfl)) (by kernel_rfl) (.inr HR.out) (fun _ => HR.out) rfl
  · have hn : 0 ≤ h := by omega
    have Hk := Lib.hid hk
    clear hk
    conv => arg 2; whnf
    go_wp2
    exact hQ _ _ h mi s _ _ _ _ (af_of rfl (by kernel_rfl)) (by kernel_rfl) (.inr Hk.out) (fun _ => Hk.out) rfl

end Go.Proofs.YtchmhdmapknmfaaGreatDoor
