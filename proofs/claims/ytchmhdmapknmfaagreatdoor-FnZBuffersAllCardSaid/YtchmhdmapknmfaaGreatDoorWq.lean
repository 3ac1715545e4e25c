/-
  FnZBuffersAll: for every size and all operations the law answers true.
-/
import Derived.Test.YtchmhdmapknmfaaGreatDoorWm
namespace Go.Proofs.YtchmhdmapknmfaaGreatDoor
open Go.RowKit

set_option maxRecDepth 100000 in
set_option maxHeartbeats 1000000 in
theorem all_big (n : Int) (p : Option Addr) (k cap : Nat) (w : World) (h : 2147483647 < k) : Calls Tryz.prog 12 #[.int .i64 n, .slice p k cap] w fun r w' => r = .returned (.bool true) ∧ Below w.heap.size w w' := by
  have Hf := Lib.hid (fits12_big p k cap w h)
  clear h
  go_enter Tryz.func12, Tryz.ntmps12
  go_wp2_with fail
  go_at_call 30
  refine Hf.out.mono ?_
  rintro r w1 ⟨b, rfl, rfl, rfl⟩
  go_wp2
  go_ret
  exact ⟨rfl, Below.refl _ _⟩

/-- So many bytes at most. -/
theorem zbAll_le (M : Nat) : ∀ (L : List ByteArray), (∀ t ∈ L, t.size ≤ M) → (zbAll L).size ≤ M * L.length := by
  have key : ∀ (l : List ByteArray) (a : ByteArray), (∀ t ∈ l, t.size ≤ M) → (l.foldl (fun a b => a ++ b) a).size ≤ a.size + M * l.length := by
    intro l
    induction l with
    | nil => intro a _; simp
    | cons t l ih =>
      intro a h
      have h1 := ih (a ++ t) (fun x hx => h x (by simp [hx]))
      have h2 := h t (by simp)
      rw [ba_size_append] at h1
      simp only [List.foldl_cons, List.length_cons]
      rw [Nat.mul_add, Nat.mul_one]
      omega
  intro L h
  have := key L ⟨#[]⟩ h
  unfold zbAll
  rw [show (⟨#[]⟩ : ByteArray).size = 0 from rfl, Nat.zero_add] at this
  exact this
/-- A part is no longer than the whole. -/
theorem zbAll_mono (L : List ByteArray) (k : Nat) : (zbAll (L.take k)).size ≤ (zbAll L).size := by
  have key : ∀ (l : List ByteArray) (a : ByteArray), a.size ≤ (l.foldl (fun a b => a ++ b) a).size := by
    intro l
    induction l with
    | nil => intro a; simp
    | cons t l ih =>
      intro a
      have := ih (a ++ t)
      rw [ba_size_append] at this
      simp only [List.foldl_cons]
      omega
  have e : zbAll L = (L.drop k).foldl (fun a b => a ++ b) (zbAll (L.take k)) := by
    unfold zbAll
    rw [← List.foldl_append, List.take_append_drop]
  rw [e]
  exact key _ _

theorem Tryz.info59 : (Tryz.prog.info? 59).map (fun i => (i.zero, i.size, i.bytes)) = some (some (.agg #[.string ⟨#[]⟩, .bool false, .bool false]), 3, 24) := by kernel_rfl

/-- The cells of operations. -/
def opCells (o : ZbOp) : List Value := [.string o.text, .bool o.sync, .bool o.stop]
theorem length_ops (L : List ZbOp) : (L.flatMap opCells).length = L.length * 3 := by
  induction L with
  | nil => rfl
  | cons o L ih =>
    rw [List.flatMap_cons, List.length_append, ih, List.length_cons]
    have : (opCells o).length = 3 := rfl
    omega
theorem ops_at (L : List ZbOp) : ∀ (i r : Nat) (h : i < L.length), r < 3 → (L.flatMap opCells)[i * 3 + r]? = (opCells L[i])[r]? := by
  induction L with
  | nil => intro i r h; exact absurd h (Nat.not_lt_zero _)
  | cons o L ih =>
    intro i r h hr
    have h3 : (opCells o).length = 3 := rfl
    rw [List.flatMap_cons]
    cases i with
    | zero =>
      rw [List.getElem?_append_left (by omega)]
      simp
    | succ i =>
      rw [List.getElem?_append_right (by omega), h3, show (i + 1) * 3 + r - 3 = i * 3 + r by omega, ih i r (by simpa using h) hr]
      rfl
/-- A row of operations that the call owns. -/
theorem zo_of_own {w : World} {B : Nat} {v : Value} {L : List ZbOp} (h : w.ownsRow B 59 3 v L.length (L.flatMap opCells)) : ZoArr v L w := by
  obtain ⟨_, ⟨h1, h2⟩ | ⟨g, cap, cur, hv, hg, hr, _⟩⟩ := id h
  · have e : L = [] := List.eq_nil_of_length_eq_zero h2
    subst e
    exact .inl ⟨rfl, none, 0, h1⟩
  · subst hv
    refine .inr ⟨g, 0, cap, rfl, lt_of_block hr, fun i hi => ?_⟩
    have hc := fun (r : Nat) (u : Value) (hr : r < 3) (hu : (opCells L[i])[r]? = some u) => h.cells rfl (i * 3 + r) u (by rw [ops_at L i r hi hr]; exact hu)
    have c0 := hc 0 _ (by omega) rfl
    have c1 := hc 1 _ (by omega) rfl
    have c2 := hc 2 _ (by omega) rfl
    rw [add_lit] at c0 c1 c2
    refine ⟨?_, ?_, ?_⟩
    · rw [Nat.zero_add]; exact c0
    · rw [Nat.zero_add]; exact c1
    · rw [Nat.zero_add]; exact c2
end Go.Proofs.YtchmhdmapknmfaaGreatDoor
