/-
  Errors that are joined; how many an error is.
-/
import Derived.Test.YtchmhdmapknmfaaGreatDoorVa
namespace Go.Proofs.YtchmhdmapknmfaaGreatDoor
open Go.RowKit

def toldV : Value := .iface 315 (.string failedS)

/-- Errors that are joined: so many of them. -/
def ErrIs (B c : Nat) (v : Value) (w : World) : Prop :=
  c = 0 ∧ v = .nilIface ∨ c = 1 ∧ v = toldV ∨ 2 ≤ c ∧ ∃ sv, v = .iface 172 sv ∧ w.ownsRow B 120 1 sv c (List.replicate c toldV)

theorem row_below {w w' : World} {B e size n : Nat} {v : Value} {xs : List Value} (h : w.ownsRow B e size v n xs) (k : Below w.heap.size w w') : w'.ownsRow B e size v n xs := by
  have hg : w.grownBy w' none := ⟨k.os, k.tape, k.output, k.size, fun i hi _ => k.block i hi⟩
  refine h.kept hg ?_
  cases v.ownBlock with
  | none => exact .inl rfl
  | some g => exact .inr (by simp)

theorem ErrIs.keep {B c : Nat} {v : Value} {w w' : World} (h : ErrIs B c v w) (hb : Below w.heap.size w w') : ErrIs B c v w' := by
  rcases h with h | h | ⟨h1, sv, h2, h3⟩
  · exact .inl h
  · exact .inr (.inl h)
  · exact .inr (.inr ⟨h1, sv, h2, row_below h3 hb⟩)

theorem Tryz.info120 : (Tryz.prog.info? 120).map (fun i => (i.zero, i.size, i.bytes)) = some (some .nilIface, 1, 16) := by kernel_rfl

/-- append of one error to a slice without room. -/
theorem run_append_clip (w : World) (g n : Nat) (xs : List Value) (hn : xs.length = n) (hcells : ∀ j u, xs[j]? = some u → w.cell? ((⟨g, 0, none⟩ : Addr).add j) = some u) (ad : Addr) (y : Value) (hy : w.cell? (ad.add 0) = some y) (hlim : n ≤ 1000) (ty : TypeId) {B : Nat} (hB : B ≤ w.heap.size) :
    ∃ v' w', (Builtin.append_ #[172, 172] ty #[.slice (some ⟨g, 0, none⟩) n n, .slice (some ad) 1 1]).run Tryz.prog w = .ok v' w' ∧ w'.ownsRow B 120 1 v' (n + 1) (xs ++ [y]) ∧ Below w.heap.size w w' := by
  obtain ⟨i, hi, hz, hsz, hby⟩ := info_parts Tryz.info120
  have hr := run_append_grow (P := Tryz.prog) w 172 ty 120 i .nilIface Tryz.underlying172 hi hz ⟨g, 0, none⟩ n n xs (by rw [hsz, hn, Nat.mul_one]) hcells ad 1 1 [y] (by rw [hsz]; rfl) (by
      intro j v hj
      cases j with
      | zero => simp at hj; rw [← hj]; exact hy
      | succ k => simp at hj)
    (by omega) (by omega) (growslice_fits (by omega) (by rw [hby]; omega))
  have hge := grownCap_ge w (n + 1) n 120
  have hcm : grownCap w (n + 1) n 120 ≤ maxLen := grownCap_le_maxLen w _ n 120 (by unfold maxLen; omega)
  refine ⟨_, _, hr, ⟨by simp [hn], .inr ⟨w.heap.size, _, _, rfl, hB, heap_alloc_new w.drew _, hge, hcm, ?_, ?_⟩⟩, (Below.drew (Below.refl _ _)).alloc (by simp) _⟩
  · have hz1 : (Value.nilIface).cells.size = 1 := rfl
    simp only [Array.size_append, List.size_toArray, size_zeroCells, hz1, hn, List.length_singleton]
    omega
  · simp only [Array.toList_append, List.append_assoc, Nat.mul_one]
    rw [← List.append_assoc, List.take_left' (by simp [hn])]

theorem wpList_append_clip {ops : Array Oper} {rest : List Oper} {o : Oper} {a : Act} {Q : Exit → Act → World → Prop} {w : World} (hgd : o.guard = none) (s x : Operand)
    (ho : o.op = .call { callee := .builtin .append, args := #[s, x], argTypes := #[172, 172] }) (g n : Nat) (xs : List Value) (hs : a.eval s = .slice (some ⟨g, 0, none⟩) n n) (hn : xs.length = n) (hcells : ∀ j u, xs[j]? = some u → w.cell? ((⟨g, 0, none⟩ : Addr).add j) = some u)
    (ad : Addr) (y : Value) (hx : a.eval x = .slice (some ad) 1 1) (hy : w.cell? (ad.add 0) = some y) (hlim : n ≤ 1000) {B : Nat} (hB : B ≤ w.heap.size)
    (hk : ∀ v' w', w'.ownsRow B 120 1 v' (n + 1) (xs ++ [y]) → Below w.heap.size w w' → wpList Tryz.prog ops Q rest (a.put o.dst v') w') : wpList Tryz.prog ops Q (o :: rest) a w := by
  refine wpList_plain hgd fun K hK => ?_
  obtain ⟨v', w', hr, h2, h3⟩ := run_append_clip w g n xs hn hcells ad y hy hlim o.type hB
  unfold Oper.wp execOp
  simp only [ho, resolve, invoke, builtin, Sem.run_bind, Sem.run_pure, Result.andThen_ok, List.map_toArray, List.map_cons, List.map_nil, hs, hx, hr]
  exact hK _ _ (hk v' w' h2 h3)

theorem told_cell (w : World) : (w.alloc (.cells #[toldV] 120)).cell? ((⟨w.heap.size, 0, none⟩ : Addr).add 0) = some toldV := cell_of_row _ _ 0 _ _ _ (heap_alloc_new w (.cells #[toldV] 120))
theorem told_cell0 (w : World) (o : Obj) : ((w.alloc (.cells #[toldV] 120)).alloc o).cell? ((⟨w.heap.size, 0, none⟩ : Addr).add 0) = some toldV :=
  cell_of_row _ _ 0 _ _ _ ((heap_alloc_old _ o (lt_of_block (heap_alloc_new w (.cells #[toldV] 120)))).trans (heap_alloc_new w (.cells #[toldV] 120)))
theorem told_cell1 (w : World) (o : Obj) : ((w.alloc o).alloc (.cells #[toldV] 120)).cell? ((⟨w.heap.size + 1, 0, none⟩ : Addr).add 0) = some toldV := by
  have h := told_cell (w.alloc o)
  rw [World.size_alloc] at h
  exact h
theorem one_at {y : Value} {w : World} {a : Addr} (h : w.cell? (a.add 0) = some y) : ∀ j u, [y][j]? = some u → w.cell? (a.add j) = some u := by
  intro j u hu
  cases j with
  | zero => simp at hu; rw [← hu]; exact h
  | succ k => simp at hu
theorem add_lit (b j : Nat) : (⟨b, 0, none⟩ : Addr).add j = ⟨b, j, none⟩ := by unfold Addr.add; split <;> simp_all

set_option maxRecDepth 100000 in
set_option maxHeartbeats 1000000 in
theorem zzAll_any {B c : Nat} (v : Value) (fail : Bool) (w : World) (h : ErrIs B c v w) (hB : B ≤ w.heap.size) (hc : c ≤ 100) :
    Calls Tryz.prog 324 #[v, errV fail] w fun r w' => ∃ v', r = .returned v' ∧ ErrIs B (c + if fail then 1 else 0) v' w' ∧ Below w.heap.size w w' := by
  cases fail with
  | false =>
    have H := Lib.hid h
    clear h
    unfold errV
    go_enter Tryz.func324, Tryz.ntmps324
    go_wp2
    go_ret
    exact ⟨v, rfl, H.out, Below.refl _ _⟩
  | true =>
    rcases h with ⟨rfl, rfl⟩ | ⟨rfl, rfl⟩ | ⟨h1, sv, rfl, h3⟩
    · have e1 := fun w => eq_iface failedS w
      unfold errV
      unfold failedS at *
      go_enter Tryz.func324, Tryz.ntmps324
      go_wp2
      go_ret
      exact ⟨_, rfl, .inr (.inl ⟨rfl, rfl⟩), Below.refl _ _⟩
    · have e1 := fun w => eq_iface failedS w
      have e2 := fun w => assert_told failedS w
      unfold errV toldV
      unfold failedS at *
      go_enter Tryz.func324, Tryz.ntmps324
      go_wp2_with (at_builtin; refine wpList_append_clip rfl _ _ rfl w.heap.size 1 [toldV] rfl rfl ?c1 ⟨w.heap.size + 1, 0, none⟩ toldV rfl ?c2 (by omega) (B := B) ?c3 ?_)
      case c1 => exact one_at (told_cell0 w _)
      case c2 => exact told_cell1 w _
      case c3 => simp; omega
      intro v' w1 hown hbel
      have HO := Lib.hid (And.intro hown hbel)
      clear hown hbel
      go_wp2
      go_ret
      exact ⟨_, rfl, .inr (.inr ⟨by omega, v', rfl, by simpa using HO.out.1⟩), (((Below.refl w.heap.size w).alloc (Nat.le_refl _) _).alloc (by simp) _).trans (HO.out.2.mono (by omega))⟩
    · obtain ⟨hlen, ⟨_, h0⟩ | ⟨g, cap, cur, rfl, hg, hrow, hle, hmax, hsz, htk⟩⟩ := id h3
      · omega
      · have e1 := fun w => eq_errs (.slice (some ⟨g, 0, none⟩) c cap) w
        have e2 := fun w => assert_errs (.slice (some ⟨g, 0, none⟩) c cap) w
        have e0 := fun w => eq_iface failedS w
        have hcI : (c : Int) ≤ (cap : Int) := by omega
        have hgl := lt_of_block hrow
        have hx : ∀ o j u, (List.replicate c toldV)[j]? = some u → (w.alloc o).cell? ((⟨g, 0, none⟩ : Addr).add j) = some u := by
          intro o j u hu
          have := h3.cells rfl j u hu
          rw [add_lit] at this ⊢
          rw [← this]
          exact World.cell?_of_block (w := w) (heap_alloc_old w o hgl)
        have HX := Lib.hid hx
        have HC := Lib.hid (And.intro h1 hB)
        clear hlen hrow hle hmax hsz htk hgl h1 hx h3 hB hg
        unfold errV
        unfold failedS at *
        go_enter Tryz.func324, Tryz.ntmps324
        go_wp2_with (at_builtin; refine wpList_append_clip rfl _ _ rfl g c (List.replicate c toldV) rfl (by simp) ?c4 ⟨w.heap.size, 0, none⟩ toldV rfl ?c5 (by omega) (B := B) ?c6 ?_)
        case c4 => exact HX.out _
        case c5 => exact told_cell w
        case c6 => have := HC.out.2; simp; omega
        intro v' w1 hown hbel
        have HO := Lib.hid (And.intro hown hbel)
        clear hown hbel
        go_wp2
        go_ret
        exact ⟨_, rfl, .inr (.inr ⟨by have := HC.out.1; omega, v', rfl, by simpa [List.replicate_succ'] using HO.out.1⟩), ((Below.refl w.heap.size w).alloc (Nat.le_refl _) _).trans (HO.out.2.mono (by omega))⟩

set_option maxRecDepth 100000 in
set_option maxHeartbeats 1000000 in
theorem count_any {B c : Nat} (v : Value) (w : World) (h : ErrIs B c v w) : Calls Tryz.prog 60 #[v] w fun r w' => r = .returned (.int .i64 (c : Int)) ∧ w = w' := by
  rcases h with ⟨rfl, rfl⟩ | ⟨rfl, rfl⟩ | ⟨h1, sv, rfl, h3⟩
  · go_enter Tryz.func60, Tryz.ntmps60
    go_wp2
    go_ret
    exact ⟨rfl, rfl⟩
  · have e1 := fun w => eq_iface failedS w
    have e2 := fun w => assert_told failedS w
    unfold toldV
    unfold failedS at *
    go_enter Tryz.func60, Tryz.ntmps60
    go_wp2
    go_ret
    exact ⟨rfl, rfl⟩
  · obtain ⟨p, k, rfl⟩ := slice_of_own h3
    have e1 := fun w => eq_errs (.slice p c k) w
    have e2 := fun w => assert_errs (.slice p c k) w
    clear h3
    go_enter Tryz.func60, Tryz.ntmps60
    go_wp2
    go_ret
    exact ⟨rfl, rfl⟩
end Go.Proofs.YtchmhdmapknmfaaGreatDoor
