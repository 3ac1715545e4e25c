/-
  ZMulti: writers are made, written to, and read.
-/
import Derived.Test.YtchmhdmapknmfaaGreatDoorVd
import Derived.Deep.Cut
namespace Go.Proofs.YtchmhdmapknmfaaGreatDoor
open Go.RowKit

theorem Tryz.info116 : (Tryz.prog.info? 116).map (fun i => (i.zero, i.size, i.bytes)) = some (some (.pointer none), 1, 8) := by kernel_rfl
theorem Tryz.info123 : (Tryz.prog.info? 123).map (fun i => (i.zero, i.size, i.bytes)) = some (some .nilIface, 1, 16) := by kernel_rfl
theorem Tryz.info9 : (Tryz.prog.info? 9).map (fun i => (i.zero, i.size, i.bytes)) = some (some (.string ⟨#[]⟩), 1, 16) := by kernel_rfl

theorem new_at {w : World} {b : Nat} {y : Value} {t : TypeId} (hb : b = w.heap.size) : (w.alloc (.cells #[y] t)).cell? ((⟨b, 0, none⟩ : Addr).add 0) = some y := by
  subst hb
  exact cell_of_row _ _ 0 _ _ _ (heap_alloc_new _ _)

/-- So many writers have been made. -/
structure MbS (w0 : World) (L : List (Int × Bool)) (bs : List Nat) (vl vw : Value) (wr : World) : Prop where
  own1 : wr.ownsRow w0.heap.size 116 1 vl bs.length (bs.map ptr)
  own2 : wr.ownsRow w0.heap.size 123 1 vw bs.length (bs.map ifc)
  tk : ∀ j (h : j < bs.length) (hL : j < L.length), Tk bs[j] L[j].1 L[j].2 ⟨#[]⟩ wr
  ge : ∀ b ∈ bs, w0.heap.size ≤ b ∧ b < wr.heap.size
  nd : ∀ i j (hi : i < bs.length) (hj : j < bs.length), i ≠ j → bs[i] ≠ bs[j]
  below : Below w0.heap.size w0 wr

def MbRel (w0 : World) (L : List (Int × Bool)) (v7 v8 v19 : Value) (wr : World) : Prop := ∃ (k : Nat) (bs : List Nat), v19 = .int .i64 (k : Int) ∧ k ≤ L.length ∧ bs.length = k ∧ MbS w0 L bs v7 v8 wr

theorem row_type {w : World} {B e size n g : Nat} {v : Value} {xs : List Value} (h : w.ownsRow B e size v n xs) (hv : v.ownBlock = some g) : ∃ cs, w.heap[g]? = some (.cells cs e (0, 0)) := by
  obtain ⟨_, ⟨h1, h2⟩ | ⟨g', cap, cur, h1, hg, hr, _⟩⟩ := h
  · rw [h1] at hv; cases hv
  · rw [h1] at hv
    cases hv
    exact ⟨_, hr⟩

theorem row_apart {w : World} {B B' e1 e2 n1 n2 : Nat} {v1 v2 : Value} {xs ys : List Value} (h1 : w.ownsRow B e1 1 v1 n1 xs) (h2 : w.ownsRow B' e2 1 v2 n2 ys) (he : e1 ≠ e2) : v1.ownBlock = none ∨ v1.ownBlock ≠ v2.ownBlock := by
  cases hv : v1.ownBlock with
  | none => exact .inl rfl
  | some g =>
    refine .inr fun e => ?_
    obtain ⟨c1, hc1⟩ := row_type h1 hv
    obtain ⟨c2, hc2⟩ := row_type h2 e.symm
    rw [hc1] at hc2
    simp at hc2
    exact he hc2.2
theorem tk_apart {w : World} {B e n b : Nat} {v : Value} {xs : List Value} {most : Int} {fail : Bool} {got : ByteArray} (h1 : w.ownsRow B e 1 v n xs) (h2 : Tk b most fail got w) (he : e ≠ 118) : some b ≠ v.ownBlock := by
  intro e1
  obtain ⟨c1, hc1⟩ := row_type h1 e1.symm
  unfold Tk at h2
  rw [h2] at hc1
  simp at hc1
  exact he hc1.2.symm

theorem MbS.own2_at {w0 wr w1 : World} {L : List (Int × Bool)} {bs : List Nat} {vl vw : Value} {a b c : Obj} (h : MbS w0 L bs vl vw wr) (g1 : (((wr.alloc a).alloc b).alloc c).grownBy w1 vl.ownBlock) : w1.ownsRow w0.heap.size 123 1 vw bs.length (bs.map ifc) :=
  (((h.own2.alloc a).alloc b).alloc c).kept g1 (row_apart h.own2 h.own1 (by decide))

theorem MbS.step {w0 wr w1 w2 : World} {L : List (Int × Bool)} {bs : List Nat} {vl vw v1 v2 : Value} {a c d : Obj} {m : Int} {fl : Bool} (h : MbS w0 L bs vl vw wr) (hk : bs.length < L.length) (hm : m = L[bs.length].1) (hfl : fl = L[bs.length].2)
    (o1 : w1.ownsRow w0.heap.size 116 1 v1 (bs.length + 1) (bs.map ptr ++ [ptr (wr.heap.size + 1)])) (g1 : (((wr.alloc a).alloc (.cells #[.int .i64 m, .bool fl, .string ⟨#[]⟩] 118)).alloc c).grownBy w1 vl.ownBlock)
    (o2 : w2.ownsRow w0.heap.size 123 1 v2 (bs.length + 1) (bs.map ifc ++ [ifc (wr.heap.size + 1)])) (g2 : (w1.alloc d).grownBy w2 vw.ownBlock) : MbS w0 L (bs ++ [wr.heap.size + 1]) v1 v2 w2 := by
  have own2 := h.own2_at g1
  have s1 := g1.size
  simp only [World.size_alloc] at s1
  have s2 := g2.size
  simp only [World.size_alloc] at s2
  have hB := h.below.size
  have lv1 := fun k hk => (h.own1.lt k hk)
  have lv2 := fun k hk => (h.own2.lt k hk)
  -- old blocks
  have old : ∀ x, x < wr.heap.size → some x ≠ vl.ownBlock → some x ≠ vw.ownBlock → w2.heap[x]? = wr.heap[x]? := by
    intro x hx n1 n2
    rw [g2.block x (by simp only [World.size_alloc]; omega) n2, heap_alloc_old w1 d (by omega), g1.block x (by simp only [World.size_alloc]; omega) n1, heap_alloc_old _ c (by simp only [World.size_alloc]; omega), heap_alloc_old _ _ (by simp only [World.size_alloc]; omega), heap_alloc_old wr a hx]
  have new : w2.heap[wr.heap.size + 1]? = some (.cells #[.int .i64 m, .bool fl, .string ⟨#[]⟩] 118 (0, 0)) := by
    have hn := heap_alloc_new (wr.alloc a) (.cells #[.int .i64 m, .bool fl, .string ⟨#[]⟩] 118)
    rw [World.size_alloc] at hn
    rw [g2.block _ (by simp only [World.size_alloc]; omega) (fun e => by have := (lv2 _ e.symm).2; omega), heap_alloc_old w1 d (by omega), g1.block _ (by simp only [World.size_alloc]; omega) (fun e => by have := (lv1 _ e.symm).2; omega), heap_alloc_old _ c (by simp only [World.size_alloc]; omega)]
    exact hn
  have hlen : (bs ++ [wr.heap.size + 1]).length = bs.length + 1 := by simp
  refine ⟨?_, ?_, fun j hj hjL => ?_, fun b hb => ?_, fun i j hi hj hne => ?_, ?_⟩
  · rw [hlen, List.map_append]
    exact (o1.alloc d).kept g2 (row_apart o1 own2 (by decide))
  · rw [hlen, List.map_append]
    exact o2
  · by_cases e : j < bs.length
    · rw [List.getElem_append_left e]
      have ht := h.tk j e hjL
      have n1 := tk_apart h.own1 ht (by decide)
      have n2 := tk_apart h.own2 ht (by decide)
      unfold Tk at ht ⊢
      rw [old _ (lt_of_block ht) n1 n2]
      exact ht
    · have e2 : j = bs.length := by rw [hlen] at hj; omega
      subst e2
      rw [List.getElem_append_right (Nat.le_refl _)]
      simp only [Nat.sub_self, List.getElem_cons_zero]
      rw [← hm, ← hfl]
      exact new
  · rw [List.mem_append] at hb
    rcases hb with hb | hb
    · have := h.ge b hb
      omega
    · simp at hb
      omega
  · have hg : ∀ x (hx : x < bs.length), bs[x] < wr.heap.size := fun x hx => (h.ge _ (List.getElem_mem hx)).2
    rw [hlen] at hi hj
    by_cases h1 : i < bs.length
    · rw [List.getElem_append_left h1]
      by_cases h2 : j < bs.length
      · rw [List.getElem_append_left h2]
        exact h.nd i j h1 h2 hne
      · have : j = bs.length := by omega
        subst this
        rw [List.getElem_append_right (Nat.le_refl _)]
        simp only [Nat.sub_self, List.getElem_cons_zero]
        have := hg i h1
        omega
    · have : i = bs.length := by omega
      subst this
      rw [List.getElem_append_right (Nat.le_refl _)]
      have h2 : j < bs.length := by omega
      rw [List.getElem_append_left h2]
      simp only [Nat.sub_self, List.getElem_cons_zero]
      have := hg j h2
      omega
  · refine ⟨?_, ?_, ?_, by omega, fun x hx => ?_⟩
    · rw [g2.os]; show w1.os = _; rw [g1.os]; exact h.below.os
    · rw [g2.tape]; show w1.tape = _; rw [g1.tape]; exact h.below.tape
    · rw [g2.output]; show w1.output = _; rw [g1.output]; exact h.below.output
    · rw [old x (by omega) (fun e => by have := (lv1 _ e.symm).1; omega) (fun e => by have := (lv2 _ e.symm).1; omega)]
      exact h.below.block x hx

/-- '[]byte(s)': a new row of bytes. -/
theorem conv_any (t : ByteArray) (w : World) : ∃ (C : Nat) (W : World), (convert 9 101 (.string t)).run Tryz.prog w = .ok (.slice (some ⟨w.heap.size, 0, none⟩) t.size C) W ∧ PBy w.heap.size t W ∧ Below w.heap.size w W ∧ W.heap.size = w.heap.size + 1 := by
  have h := run_bytes_of_string (P := Tryz.prog) w 9 101 5 t Tryz.underlying9 Tryz.underlying101 Tryz.underlying5
  refine ⟨_, _, h, ⟨by simp, fun j hj => ?_⟩, (Below.drew (Below.refl _ w)).alloc (Nat.le_refl _) _, by simp⟩
  have hc : (w.drew.alloc (.cells (bytesRow t (grownCap w t.size 0 5)) 5 ((bytesRow t (grownCap w t.size 0 5)).size, (bytesRow t (grownCap w t.size 0 5)).size + 1))).heap[w.heap.size]? = _ := heap_alloc_new w.drew _
  rw [add_lit, cell_of_row _ _ j _ _ _ hc]
  have hj' : j < t.data.size := by simpa using hj
  unfold bytesRow
  rw [Array.getElem?_append_left (by simpa using hj'), Array.getElem?_map, Array.getElem?_eq_getElem hj']
  simp

theorem row_same {w w' : World} {B e size n : Nat} {v : Value} {xs : List Value} (h : w.ownsRow B e size v n xs) (hs : ∀ g, v.ownBlock = some g → w'.heap[g]? = w.heap[g]?) : w'.ownsRow B e size v n xs := by
  obtain ⟨h1, h2 | ⟨g, cap, cur, rfl, hb, hg, rest⟩⟩ := h
  · exact ⟨h1, .inl h2⟩
  · exact ⟨h1, .inr ⟨g, cap, cur, rfl, hb, (hs g rfl).trans hg, rest⟩⟩

/-- Writers that have got a text; the list of them. -/
structure MdS (w0 : World) (L : List (Int × Bool)) (bs : List Nat) (t : ByteArray) (vl : Value) (wr : World) : Prop where
  own1 : wr.ownsRow w0.heap.size 116 1 vl bs.length (bs.map ptr)
  tk : ∀ j (h : j < bs.length) (hL : j < L.length), Tk bs[j] L[j].1 L[j].2 t wr
  below : Below w0.heap.size w0 wr

theorem MdS.of_many {w0 wr W w' : World} {L : List (Int × Bool)} {bs : List Nat} {t : ByteArray} {vl vw : Value} (h : MbS w0 L bs vl vw wr) (hb : Below wr.heap.size wr W) (hbl : bs.length = L.length) (hm : MwS W L bs t L.length w') : MdS w0 L bs t vl w' := by
  refine ⟨?_, fun j hj hL => ?_, ?_⟩
  · have h1 := row_below h.own1 hb
    refine row_same h1 fun g hg => hm.other g (h1.lt g hg).2 fun hmem => ?_
    obtain ⟨j, hj, e⟩ := List.getElem_of_mem hmem
    have ht := h.tk j hj (by omega)
    exact tk_apart h.own1 ht (by decide) (by rw [hg, e])
  · have := hm.tk j hj hL
    rwa [if_pos (by omega)] at this
  · refine ⟨?_, ?_, ?_, ?_, fun x hx => ?_⟩
    · exact hm.os.trans (hb.os.trans h.below.os)
    · exact hm.tape.trans (hb.tape.trans h.below.tape)
    · exact hm.output.trans (hb.output.trans h.below.output)
    · exact Nat.le_trans h.below.size (Nat.le_trans hb.size hm.size)
    · have hs := h.below.size
      have hs2 := hb.size
      rw [hm.other x (by omega) (fun hb2 => by have := (h.ge x hb2).1; omega), hb.block x (by omega)]
      exact h.below.block x hx

theorem MbS.of_one {w0 wr W w' : World} {L : List (Int × Bool)} {b : Nat} {t : ByteArray} {vl vw : Value} (h : MbS w0 L [b] vl vw wr) (hb : Below wr.heap.size wr W) (hL : L.length = 1) (hm : Tk b (L[0]'(by omega)).1 (L[0]'(by omega)).2 t w') (hK : Keeps W.heap.size b W w') : MdS w0 L [b] t vl w' := by
  refine ⟨?_, fun j hj hL => ?_, ?_⟩
  · have h1 := row_below h.own1 hb
    refine row_same h1 fun g hg => hK.block g (h1.lt g hg).2 fun e => ?_
    have ht := h.tk 0 (by simp) (by omega)
    exact tk_apart h.own1 ht (by decide) (by rw [hg, e]; rfl)
  · have e : j = 0 := by simp at hj; exact hj
    subst e
    exact hm
  · refine ⟨?_, ?_, ?_, ?_, fun x hx => ?_⟩
    · exact hK.os.trans (hb.os.trans h.below.os)
    · exact hK.tape.trans (hb.tape.trans h.below.tape)
    · exact hK.output.trans (hb.output.trans h.below.output)
    · exact Nat.le_trans h.below.size (Nat.le_trans hb.size hK.size)
    · have hs := h.below.size
      have hs2 := hb.size
      have hbb := (h.ge b (by simp)).1
      rw [hK.block x (by omega) (by omega), hb.block x (by omega)]
      exact h.below.block x hx

theorem meth_multiWrite (v : Value) (w : World) : (method 524 170 v "Write").run Tryz.prog w = .ok (323, v) w := by kernel_rfl

set_option maxRecDepth 100000 in
set_option maxHeartbeats 400000 in
theorem newMulti_one {B b : Nat} (vw : Value) (w : World) (h : w.ownsRow B 123 1 vw 1 [ifc b]) : Calls Tryz.prog 59 #[vw] w fun r w' => r = .returned (ifc b) ∧ w = w' := by
  obtain ⟨_, ⟨h1, h2⟩ | ⟨g, cap, cur, rfl, hg, hr, _⟩⟩ := id h
  · omega
  · have hc := h.cells rfl 0 (ifc b) rfl
    rw [add_lit] at hc
    unfold ifc at *
    clear h hr hg
    go_enter Tryz.func59, Tryz.ntmps59
    go_wp2
    go_ret
    exact ⟨rfl, rfl⟩

set_option maxRecDepth 100000 in
set_option maxHeartbeats 400000 in
theorem newMulti_many (p : Option Addr) (n cap : Nat) (w : World) (hn : n ≠ 1) : Calls Tryz.prog 59 #[.slice p n cap] w fun r w' => r = .returned (.iface 170 (.slice p n cap)) ∧ w = w' := by
  have h1 : ((n : Int) == 1) = false := by rw [beq_eq_false_iff_ne]; omega
  clear hn
  go_enter Tryz.func59, Tryz.ntmps59
  go_wp2
  go_ret
  exact ⟨rfl, rfl⟩

theorem tk_one {L : List (Int × Bool)} (h1 : L.length = 1) (h0 : 0 < L.length) (T : Int) : tkN T L = tkStep 0 (min L[0].1 T) ∧ tkE L = if L[0].2 then 1 else 0 := by
  match L, h1, h0 with
  | [x], _, _ => exact ⟨rfl, by cases h : x.2 <;> simp [tkE, h]⟩

/-- What there is behind the writing. -/
def MlRel (w0 : World) (L : List (Int × Bool)) (t : ByteArray) (vl v12 v13 : Value) (wx : World) : Prop :=
  ∃ (n : Int) (bs : List Nat) (B : Nat), v12 = .int .i64 n ∧ n = tkN t.size L ∧ ErrIs B (tkE L) v13 wx ∧ bs.length = L.length ∧ MdS w0 L bs t vl wx

theorem ErrIs.grown {B B2 c n : Nat} {v u : Value} {w w1 : World} {o : Obj} {xs : List Value} (h : ErrIs B c v w) (ho : w.ownsRow B2 9 1 u n xs) (g : (w.alloc o).grownBy w1 u.ownBlock) : ErrIs B c v w1 := by
  rcases h with h | h | ⟨h1, sv, h2, h3⟩
  · exact .inl h
  · exact .inr (.inl h)
  · exact .inr (.inr ⟨h1, sv, h2, (h3.alloc o).kept g (row_apart h3 ho (by decide))⟩)

theorem MdS.grown {w0 w w1 : World} {L : List (Int × Bool)} {bs : List Nat} {t : ByteArray} {vl u : Value} {o : Obj} {n : Nat} {xs : List Value} (h : MdS w0 L bs t vl w) (ho : w.ownsRow w0.heap.size 9 1 u n xs) (g : (w.alloc o).grownBy w1 u.ownBlock) : MdS w0 L bs t vl w1 := by
  refine ⟨(h.own1.alloc o).kept g (row_apart h.own1 ho (by decide)), fun j hj hL => ?_, ⟨g.os.trans h.below.os, g.tape.trans h.below.tape, g.output.trans h.below.output, ?_, fun x hx => ?_⟩⟩
  · have ht := h.tk j hj hL
    have hne := tk_apart ho ht (by decide)
    unfold Tk at ht ⊢
    have hl := lt_of_block ht
    rw [g.block _ (by simp only [World.size_alloc]; omega) hne, heap_alloc_old w o hl]
    exact ht
  · have h1 := g.size
    have h2 := h.below.size
    simp only [World.size_alloc] at h1
    omega
  · have hs := h.below.size
    rw [g.block x (by simp only [World.size_alloc]; omega) (fun e => by have := (ho.lt x e.symm).1; omega), heap_alloc_old w o (by omega)]
    exact h.below.block x hx

/-- What the loop that reads the writers keeps. -/
def MoRel (w0 : World) (L : List (Int × Bool)) (bs : List Nat) (t : ByteArray) (B : Nat) (vl v13 v14 v46 : Value) (wr : World) : Prop :=
  ∃ k : Nat, v46 = .int .i64 (k : Int) ∧ k ≤ L.length ∧ wr.ownsRow w0.heap.size 9 1 v14 k (List.replicate k (.string t)) ∧ ErrIs B (tkE L) v13 wr ∧ MdS w0 L bs t vl wr

def MzPost (w0 : World) (L : List (Int × Bool)) (t : ByteArray) (r : Ending) (w' : World) : Prop :=
  ∃ (n e : Int) (vo : Value), r = .returned (.tuple #[.int .i64 n, .int .i64 e, vo]) ∧ n = tkN t.size L ∧ e = (tkE L : Int) ∧ w'.ownsRow w0.heap.size 9 1 vo L.length (List.replicate L.length (.string t)) ∧ Below w0.heap.size w0 w'

set_option maxRecDepth 100000 in
set_option maxHeartbeats 4000000 in
theorem zMulti_any (v : Value) (L : List (Int × Bool)) (t : ByteArray) (w : World) (h : TkArr v L w) (hL : L.length ≤ 20) (h0 : ∀ x ∈ L, 0 ≤ x.1) (ht : t.size ≤ 2000) :
    Calls Tryz.prog 28 #[v, .string t] w (MzPost w L t) := by
  obtain ⟨i1, hi1, hz1, hs1, hb1⟩ := info_parts Tryz.info116
  obtain ⟨i2, hi2, hz2, hs2, hb2⟩ := info_parts Tryz.info123
  obtain ⟨i3, hi3, hz3, hs3, hb3⟩ := info_parts Tryz.info9
  have HA := Lib.hid (And.intro h (And.intro hL (And.intro h0 ht)))
  have hlI : (L.length : Int) ≤ 20 := by omega
  have hv : ∃ p cap, v = .slice p L.length cap := by
    rcases h with ⟨rfl, p, cap, rfl⟩ | ⟨b, off, cap, rfl, -, -⟩
    · exact ⟨p, cap, rfl⟩
    · exact ⟨_, cap, rfl⟩
  obtain ⟨pv, capv, rfl⟩ := hv
  clear h hL h0 ht
  go_enter Tryz.func28, Tryz.ntmps28
  go_wp2_with fail
  go_loopw [7, 8, 19] (fun v7 v8 v19 wr => MbRel w L v7 v8 v19 wr) (fun _ _ v19 _ => L.length - (intOf v19).toNat)
  case atStart => exact ⟨0, [], rfl, Nat.zero_le _, rfl, ⟨World.ownsRow_nil _ _ _ _, World.ownsRow_nil _ _ _ _, fun j h => absurd h (Nat.not_lt_zero j), (fun b h => by cases h), fun i j h => absurd h (Nat.not_lt_zero i), Below.refl _ _⟩⟩
  case round =>
    obtain ⟨k, bs, rfl, hk, hbl, hS⟩ := hrel
    by_cases hlt : k < L.length
    · rcases HA.out.1 with ⟨hnil, -⟩ | ⟨b, off, cap, hv, hb, hc⟩
      · rw [hnil] at hlt; simp at hlt
      · obtain ⟨rfl, -⟩ : pv = some ⟨b, off, none⟩ ∧ capv = cap := by simpa using hv
        obtain ⟨c0, c1⟩ := hc k hlt
        rw [← hS.below.cell hb] at c0
        rw [← hS.below.cell hb] at c1
        obtain ⟨m, hm⟩ : ∃ m, m = L[k].1 := ⟨_, rfl⟩
        obtain ⟨fl, hfl⟩ : ∃ fl, fl = L[k].2 := ⟨_, rfl⟩
        rw [← hm] at c0
        rw [← hfl] at c1
        have hkI : (k : Int) < (L.length : Int) := by omega
        have hS0 := hS
        have HS := Lib.hid (And.intro hS (And.intro hbl (And.intro hm (And.intro hfl hlt))))
        clear hS hbl hm hfl hc hb hv
        have hsz := hS0.below.size
        have Hsz := Lib.hid (And.intro hsz HA.out.2.1)
        clear hsz hS0
        go_wp2_with (at_builtin; refine wpList_append_own _ rfl _ _ 114 rfl w.heap.size 116 i1 (.pointer none) 1 8 Tryz.underlying114 hi1 hz1 hs1 hb1 rfl (by decide) u7 bs.length (bs.map ptr) rfl (((HS.out.1.own1.alloc _).alloc _).alloc _) ⟨wr.heap.size + 1 + 1, 0, none⟩ 1 1 [ptr (wr.heap.size + 1)] rfl rfl ?c1 ?c2 ?c3 ?c4 ?c5 ?_)
        case c1 => exact one_at (new_at (by simp))
        case c2 => simp [ptr, Value.oneCell']
        case c3 => have := HS.out.2.1; have := HS.out.2.2.2.2; have := Hsz.out.2; unfold maxLen; omega
        case c4 => have := HS.out.2.1; have := HS.out.2.2.2.2; have := Hsz.out.2; omega
        case c5 => have := Hsz.out.1; simp; omega
        intro v1 w1 hown1 hgrow1 _
        have H1 := Lib.hid (And.intro hown1 hgrow1)
        have hown2 := HS.out.1.own2_at hgrow1
        have hs1 := hgrow1.size
        simp only [World.size_alloc] at hs1
        have H2 := Lib.hid (And.intro hown2 hs1)
        clear hown1 hgrow1 hown2 hs1
        go_wp2_with (at_builtin; refine wpList_append_own _ rfl _ _ 115 rfl w.heap.size 123 i2 .nilIface 1 16 Tryz.underlying115 hi2 hz2 hs2 hb2 rfl (by decide) u8 bs.length (bs.map ifc) rfl (H2.out.1.alloc _) ⟨w1.heap.size, 0, none⟩ 1 1 [ifc (wr.heap.size + 1)] rfl rfl ?d1 ?d2 ?d3 ?d4 ?d5 ?_)
        case d1 => exact one_at (new_at rfl)
        case d2 => simp [ifc, Value.oneCell']
        case d3 => have := HS.out.2.1; have := HS.out.2.2.2.2; have := Hsz.out.2; unfold maxLen; omega
        case d4 => have := HS.out.2.1; have := HS.out.2.2.2.2; have := Hsz.out.2; omega
        case d5 => have := Hsz.out.1; have := H2.out.2; simp; omega
        intro v2 w2 hown3 hgrow2 _
        have hS2 : MbS w L (bs ++ [wr.heap.size + 1]) v1 v2 w2 := by
          obtain ⟨hS, hbl, hm, hfl, hlt⟩ := HS.out
          subst hbl
          exact hS.step hlt hm hfl H1.out.1 H1.out.2 hown3 hgrow2
        have H3 := Lib.hid hS2
        clear hown3 hgrow2 hS2
        go_wp2
        exact ⟨⟨k + 1, bs ++ [wr.heap.size + 1], by go_num, HS.out.2.2.2.2, by simp [HS.out.2.1], H3.out⟩, by have := HS.out.2.2.2.2; simp [intOf]; omega⟩
    · have hge : (L.length : Int) ≤ (k : Int) := by omega
      have hkL : k = L.length := by omega
      have hS0 := hS
      obtain ⟨pw, cw, hvw⟩ := slice_of_own hS.own2
      have HS := Lib.hid (And.intro hS (And.intro hbl hkL))
      rw [hbl, hkL] at hvw
      subst hvw
      have hdec : decide (k < L.length) = false := by rw [decide_eq_false_iff_not]; exact hlt
      clear hS hS0 hbl hkL hlt hk
      go_upto_region 9 with fail
      go_cut [12, 13] from 36 (fun v12 v13 wx => MlRel w L t u7 v12 v13 wx)
      case first =>
        obtain ⟨C, W, hcv, hpb, hbel, hsz⟩ := conv_any t wr
        by_cases h1 : L.length = 1
        · obtain ⟨b, rfl⟩ : ∃ b, bs = [b] := by
            obtain ⟨hS, hbl, hkL⟩ := HS.out
            match bs, hbl with
            | [b], _ => exact ⟨b, rfl⟩
            | [], h => simp at h; omega
            | _ :: _ :: _, h => simp at h; omega
          have hS := HS.out.1
          have how : wr.ownsRow w.heap.size 123 1 (.slice pw L.length cw) 1 [ifc b] := hS.own2
          have hl0 : 0 < L.length := by omega
          have hT := hS.tk 0 (by simp) (by omega)
          obtain ⟨m, hm⟩ : ∃ m, m = L[0].1 := ⟨_, rfl⟩
          obtain ⟨fl, hfl⟩ : ∃ fl, fl = L[0].2 := ⟨_, rfl⟩
          obtain ⟨own, ho⟩ : ∃ own, own = min (t.size : Int) m := ⟨_, rfl⟩
          have hT2 : Tk b m fl ⟨#[]⟩ W := by
            rw [hm, hfl]
            have hT : wr.heap[b]? = _ := hT
            unfold Tk
            rw [hbel.block b (lt_of_block hT)]
            exact hT
          have Hn := Lib.hid (newMulti_one _ wr how)
          have Hw := Lib.hid (takerWrite_any C m own fl ⟨#[]⟩ t W hT2 hpb (by rw [hm]; exact HA.out.2.2.1 _ (List.getElem_mem _)) (by have := HA.out.2.2.2; omega) (by decide) ho)
          have hme := fun w => meth_takerWrite ⟨b, 0, none⟩ w
          have HX := Lib.hid (And.intro hS (And.intro hbel (And.intro h1 (And.intro hm (And.intro hfl ho)))))
          clear hS how hT hm hfl ho hT2 hpb hbel hsz h1
          unfold ifc at Hn
          go_wp2_with fail
          go_at_call 59
          refine Hn.out.mono ?_
          rintro r w' ⟨rfl, rfl⟩
          go_wp2_with fail
          go_at_call 222
          refine Hw.out.mono ?_
          rintro r w3 ⟨rfl, hT3, hK3⟩
          have HF := Lib.hid (And.intro hT3 hK3)
          clear hT3 hK3
          go_wp2_with fail
          go_meet
          refine ⟨own, [b], 0, rfl, ?_, ?_, ?_, ?_⟩
          · obtain ⟨-, -, hl1, hm, -, ho⟩ := HX.out
            have h2 := HA.out.2.2.1 L[0] (List.getElem_mem _)
            rw [(tk_one hl1 hl0 t.size).1, ← hm, ho]
            rw [← hm] at h2
            unfold tkStep
            split <;> (try split) <;> omega
          · obtain ⟨-, -, hl1, -, hfl, -⟩ := HX.out
            rw [(tk_one hl1 hl0 t.size).2, ← hfl]
            unfold errV
            cases fl
            · exact .inl ⟨rfl, rfl⟩
            · exact .inr (.inl ⟨rfl, rfl⟩)
          · exact HX.out.2.2.1.symm
          · obtain ⟨hS, hbel, hl1, hm, hfl, -⟩ := HX.out
            refine hS.of_one hbel hl1 ?_ HF.out.2
            have h3 := HF.out.1
            have e : (⟨#[]⟩ : ByteArray) ++ t = t := ByteArray.ext (by rw [ByteArray.data_append]; simp)
            rw [e, hm, hfl] at h3
            exact h3
        · have Hn := Lib.hid (fun W => newMulti_many pw L.length cw W h1)
          have hme := fun w => meth_multiWrite (.slice pw L.length cw) w
          obtain ⟨hS, hbl, hkL⟩ := HS.out
          have hw2 := row_below hS.own2 hbel
          have hmw : MwS W L bs t 0 W := ⟨rfl, rfl, rfl, Nat.le_refl _, fun _ _ _ => rfl, fun j hj hL => by
            have := hS.tk j hj hL
            rw [if_neg (Nat.not_lt_zero j)]
            unfold Tk at this ⊢
            rw [hbel.block _ (lt_of_block this)]
            exact this⟩
          have hbL : bs.length = L.length := by omega
          rw [hbL] at hw2
          have Hw := Lib.hid (multiWrite_any L bs (.slice pw L.length cw) C t W hw2 hbL hmw hS.nd hpb (fun hm => by have := (hS.ge _ hm).2; omega) HA.out.2.1 HA.out.2.2.1 HA.out.2.2.2)
          have HX := Lib.hid (And.intro hS (And.intro hbel hbL))
          clear hS hbl hkL hw2 hmw hbL hpb hbel hsz h1
          go_wp2_with fail
          go_at_call 59
          refine (Hn.out _).mono ?_
          rintro r w' ⟨rfl, rfl⟩
          go_wp2_with fail
          go_at_call 323
          refine Hw.out.mono ?_
          rintro r w3 ⟨n, v', rfl, hn, hE, hM⟩
          have HF := Lib.hid (And.intro hn (And.intro hE hM))
          clear hn hE hM
          go_wp2_with fail
          go_meet
          exact ⟨n, bs, _, rfl, HF.out.1, HF.out.2.1, HX.out.2.2, MdS.of_many HX.out.1 HX.out.2.1 HX.out.2.2 HF.out.2.2⟩
      case rest =>
        obtain ⟨n, bs2, B, rfl, hn, hE, hb2, hM⟩ := hcut
        obtain ⟨pl, cl, hvl⟩ := slice_of_own hM.own1
        rw [hb2] at hvl
        have HM := Lib.hid (And.intro hn (And.intro hE (And.intro hb2 hM)))
        clear hn hE hb2 hM HS
        subst hvl
        go_wp2_with fail
        go_loopw [14, 46] (fun v14 v46 wy => MoRel w L bs2 t B (.slice pl L.length cl) u13 v14 v46 wy) (fun _ v46 _ => L.length - (intOf v46).toNat)
        case atStart => exact ⟨0, rfl, Nat.zero_le _, World.ownsRow_nil _ _ _ _, HM.out.2.1, HM.out.2.2.2⟩
        case round =>
          obtain ⟨i, rfl, hi, ho, hE, hM⟩ := hrel
          by_cases hil : i < L.length
          · have hib : i < bs2.length := by rw [HM.out.2.2.1]; exact hil
            have hiI : (i : Int) < (L.length : Int) := by omega
            have hT := hM.tk i hib hil
            obtain ⟨b, hb⟩ : ∃ b, b = bs2[i] := ⟨_, rfl⟩
            rw [← hb] at hT
            obtain ⟨-, -, cb, -⟩ := hT.cells
            have hcl : ∃ gl, pl = some ⟨gl, 0, none⟩ := by
              obtain ⟨_, ⟨h1, h2⟩ | ⟨g, cap, cur, h1, _⟩⟩ := hM.own1
              · omega
              · simp at h1
                exact ⟨g, h1.1⟩
            obtain ⟨gl, rfl⟩ := hcl
            have hc := hM.own1.cells rfl i (ptr bs2[i]) (by rw [List.getElem?_map, List.getElem?_eq_getElem hib]; rfl)
            rw [add_lit, ← hb] at hc
            unfold ptr at hc
            have HS := Lib.hid (And.intro ho (And.intro hE (And.intro hM hil)))
            have hBs := hM.below.size
            have HB := Lib.hid (And.intro hBs HA.out.2.1)
            clear ho hE hM hT hb hBs
            go_wp2_with (at_builtin; refine wpList_append_own _ rfl _ _ 22 rfl w.heap.size 9 i3 (.string ⟨#[]⟩) 1 16 Tryz.underlying22 hi3 hz3 hs3 hb3 rfl (by decide) u14 i (List.replicate i (.string t)) rfl (HS.out.1.alloc _) ⟨wr.heap.size, 0, none⟩ 1 1 [.string t] rfl rfl ?e1 ?e2 ?e3 ?e4 ?e5 ?_)
            case e2 => simp [Value.oneCell']
            case e3 => have := HS.out.2.2.2; have := HB.out.2; unfold maxLen; omega
            case e4 => have := HS.out.2.2.2; have := HB.out.2; omega
            case e5 => have := HB.out.1; simp; omega
            intro v2 w2 hown hgrow _
            have H2 := Lib.hid (And.intro hown (And.intro (HS.out.2.1.grown HS.out.1 hgrow) (HS.out.2.2.1.grown HS.out.1 hgrow)))
            clear hown hgrow
            go_wp2
            exact ⟨⟨i + 1, by go_num, HS.out.2.2.2, by rw [List.replicate_succ']; exact H2.out.1, H2.out.2.1, H2.out.2.2⟩, by have := HS.out.2.2.2; simp [intOf]; omega⟩
          · have hig : (L.length : Int) ≤ (i : Int) := by omega
            have hiL : i = L.length := by omega
            have Hc := Lib.hid (count_any u13 _ hE)
            have HS := Lib.hid (And.intro ho (And.intro hM hiL))
            clear ho hE hM hiL hil hi
            go_wp2_with fail
            go_at_call 60
            refine Hc.out.mono ?_
            rintro r w' ⟨rfl, rfl⟩
            go_wp2
            go_ret3
            refine ⟨n, _, _, rfl, HM.out.1, rfl, ?_, HS.out.2.1.below⟩
            have := HS.out.1
            rw [HS.out.2.2] at this
            exact this
end Go.Proofs.YtchmhdmapknmfaaGreatDoor
