/-
  A multi writer's Write: each writer gets all of the bytes.
-/
import Derived.Test.YtchmhdmapknmfaaGreatDoorVc
namespace Go.Proofs.YtchmhdmapknmfaaGreatDoor
open Go.RowKit

theorem meth_takerWrite (a : Addr) (w : World) : (method 524 116 (.pointer (some a)) "Write").run Tryz.prog w = .ok (222, .pointer (some a)) w := by kernel_rfl

def ifc (b : Nat) : Value := .iface 116 (.pointer (some ⟨b, 0, none⟩))
def ptr (b : Nat) : Value := .pointer (some ⟨b, 0, none⟩)

/-- The writers' blocks while they are written to: those ahead of the k-th have got all. -/
structure MwS (w0 : World) (L : List (Int × Bool)) (bs : List Nat) (t : ByteArray) (k : Nat) (wr : World) : Prop where
  os : wr.os = w0.os
  tape : wr.tape = w0.tape
  output : wr.output = w0.output
  size : w0.heap.size ≤ wr.heap.size
  other : ∀ q, q < w0.heap.size → q ∉ bs → wr.heap[q]? = w0.heap[q]?
  tk : ∀ j (h : j < bs.length) (hL : j < L.length), Tk bs[j] L[j].1 L[j].2 (if j < k then t else ⟨#[]⟩) wr

theorem Tk.lt {b : Nat} {most : Int} {fail : Bool} {got : ByteArray} {w : World} (h : Tk b most fail got w) : b < w.heap.size := lt_of_block h

theorem MwS.step {w0 wr w2 w3 : World} {L : List (Int × Bool)} {bs : List Nat} {t : ByteArray} {k : Nat} (h : MwS w0 L bs t k wr) (hk : k < bs.length) (hkL : k < L.length) (hnd : ∀ i j (hi : i < bs.length) (hj : j < bs.length), i ≠ j → bs[i] ≠ bs[j])
    (ht : Tk bs[k] L[k].1 L[k].2 t w2) (hK : Keeps wr.heap.size bs[k] wr w2) (hb : Below w2.heap.size w2 w3) : MwS w0 L bs t (k + 1) w3 := by
  refine ⟨hb.os.trans (hK.os.trans h.os), hb.tape.trans (hK.tape.trans h.tape), hb.output.trans (hK.output.trans h.output), Nat.le_trans h.size (Nat.le_trans hK.size hb.size), fun q hq hn => ?_, fun j hj hjL => ?_⟩
  · have hne : q ≠ bs[k] := fun e => hn (e ▸ List.getElem_mem hk)
    rw [hb.block q (by have := h.size; have := hK.size; omega), hK.block q (by have := h.size; omega) hne]
    exact h.other q hq hn
  · by_cases e : j = k
    · subst e
      rw [if_pos (by omega)]
      unfold Tk at ht ⊢
      rw [hb.block _ (lt_of_block ht)]
      exact ht
    · have h1 := h.tk j hj hjL
      have e2 : (if j < k + 1 then t else (⟨#[]⟩ : ByteArray)) = if j < k then t else ⟨#[]⟩ := by
        by_cases hlt : j < k
        · rw [if_pos hlt, if_pos (by omega)]
        · rw [if_neg hlt, if_neg (by omega)]
      rw [e2]
      unfold Tk at h1 ⊢
      have hl := lt_of_block h1
      rw [hb.block _ (by have := hK.size; omega), hK.block _ hl (hnd j k hj hk e)]
      exact h1

theorem ErrIs.put {B c b : Nat} {v : Value} {w w' : World} (h : ErrIs B c v w) (hK : Keeps w.heap.size b w w') (hb : b < B) : ErrIs B c v w' := by
  rcases h with h | h | ⟨h1, sv, h2, h3⟩
  · exact .inl h
  · exact .inr (.inl h)
  · refine .inr (.inr ⟨h1, sv, h2, h3.kept (row := some b) ⟨hK.os, hK.tape, hK.output, hK.size, fun q hq hn => hK.block q hq (fun e => hn (by rw [e]))⟩ ?_⟩)
    refine .inr fun e => ?_
    have := h3.lt b e
    omega

/-- What the loop of Write keeps. -/
def MwRel (w0 : World) (L : List (Int × Bool)) (bs : List Nat) (t : ByteArray) (v6 v7 v14 : Value) (wr : World) : Prop :=
  ∃ (k : Nat) (n : Int), v14 = .int .i64 (k : Int) ∧ v7 = .int .i64 n ∧ k ≤ L.length ∧ n = tkN t.size (L.take k) ∧ ErrIs w0.heap.size (tkE (L.take k)) v6 wr ∧ MwS w0 L bs t k wr

def MwPost (w0 : World) (L : List (Int × Bool)) (bs : List Nat) (t : ByteArray) (r : Ending) (w' : World) : Prop :=
  ∃ (n : Int) (v : Value), r = .returned (.tuple #[.int .i64 n, v]) ∧ n = tkN t.size L ∧ ErrIs w0.heap.size (tkE L) v w' ∧ MwS w0 L bs t L.length w'

set_option maxRecDepth 100000 in
set_option maxHeartbeats 4000000 in
theorem multiWrite_any {B g : Nat} (L : List (Int × Bool)) (bs : List Nat) (vw : Value) (cap : Nat) (t : ByteArray) (w : World) (hw : w.ownsRow B 123 1 vw L.length (bs.map ifc)) (hbl : bs.length = L.length) (htk : MwS w L bs t 0 w) (hnd : ∀ i j (hi : i < bs.length) (hj : j < bs.length), i ≠ j → bs[i] ≠ bs[j])
    (hp : PBy g t w) (hg : g ∉ bs) (hL : L.length ≤ 20) (h0 : ∀ x ∈ L, 0 ≤ x.1) (ht : t.size ≤ 2000) :
    Calls Tryz.prog 323 #[vw, .slice (some ⟨g, 0, none⟩) t.size cap] w (MwPost w L bs t) := by
  have ht' : (t.size : Int) ≤ 2000 := by omega
  have hlI : (L.length : Int) ≤ 20 := by omega
  obtain ⟨pw, cw, hv⟩ := slice_of_own hw
  have hrow : ∀ k (_ : k < L.length) (hb : k < bs.length) (wr : World), MwS w L bs t k wr → ∃ gw, pw = some ⟨gw, 0, none⟩ ∧ wr.cell? ⟨gw, k, none⟩ = some (ifc bs[k]) := by
    intro k hk hb wr hS
    obtain ⟨_, ⟨h1, h2⟩ | ⟨gw, cap', cur, hv', hgw, hr, _⟩⟩ := id hw
    · omega
    · rw [hv] at hv'
      injection hv' with e1 e2 e3
      refine ⟨gw, e1, ?_⟩
      rw [hv, e1] at hw
      have hc := hw.cells rfl k (ifc bs[k]) (by rw [List.getElem?_map, List.getElem?_eq_getElem hb]; rfl)
      rw [add_lit] at hc
      rw [← hc]
      refine World.cell?_of_block (w := w) (hS.other gw (lt_of_block hr) ?_)
      intro hm
      obtain ⟨j, hj, e⟩ := List.getElem_of_mem hm
      have h3 := htk.tk j hj (by omega)
      unfold Tk at h3
      rw [e, hr] at h3
      simp at h3
  have HR := Lib.hid hrow
  have H := Lib.hid (And.intro hbl (And.intro hnd (And.intro hp (And.intro hg (And.intro hL (And.intro h0 ht))))))
  have HT := Lib.hid htk
  subst hv
  clear hw hbl htk hnd hp hg hL h0 ht hrow
  go_enter Tryz.func323, Tryz.ntmps323
  go_wp2_with fail
  go_loopw [6, 7, 14] (fun v6 v7 v14 wr => MwRel w L bs t v6 v7 v14 wr) (fun _ _ v14 _ => L.length - (intOf v14).toNat)
  case atStart => exact ⟨0, 0, rfl, rfl, Nat.zero_le _, rfl, .inl ⟨rfl, rfl⟩, HT.out⟩
  case round =>
    obtain ⟨k, n, rfl, rfl, hk, hn, hE, hS⟩ := hrel
    by_cases hlt : k < L.length
    · have hkb : k < bs.length := by rw [H.out.1]; exact hlt
      obtain ⟨gw, rfl, hc⟩ := HR.out k hlt hkb wr hS
      have hkI : (k : Int) < (L.length : Int) := by omega
      have hTk := hS.tk k hkb hlt
      rw [if_neg (by omega)] at hTk
      have hns := tkN_snoc t.size L k hlt
      have hes := tkE_snoc L k hlt
      have hbd := tkN_bd (T := t.size) (by omega) (L.take k) (fun x hx => H.out.2.2.2.2.2.1 x (List.mem_of_mem_take hx))
      have hel := tkE_le (L.take k)
      have hel2 : (L.take k).length ≤ k := List.length_take_le _ _
      have hm0 := H.out.2.2.2.2.2.1 L[k] (List.getElem_mem hlt)
      obtain ⟨m, hm⟩ : ∃ m, m = L[k].1 := ⟨_, rfl⟩
      obtain ⟨fl, hfl⟩ : ∃ fl, fl = L[k].2 := ⟨_, rfl⟩
      have hpb : PBy g t wr := by
        obtain ⟨p1, p2⟩ := H.out.2.2.1
        refine ⟨Nat.lt_of_lt_of_le p1 hS.size, fun j hj => ?_⟩
        rw [← p2 j hj, add_lit]
        exact World.cell?_of_block (w := w) (hS.other g p1 H.out.2.2.2.1)
      obtain ⟨own, ho⟩ : ∃ own, own = min m (t.size : Int) := ⟨_, rfl⟩
      obtain ⟨b, hb⟩ : ∃ b, b = bs[k] := ⟨_, rfl⟩
      rw [← hb] at hc hTk
      have hT2 := hTk
      rw [← hm, ← hfl] at hT2
      have Hw := Lib.hid (takerWrite_any cap m own fl ⟨#[]⟩ t wr hT2 hpb (by rw [hm]; exact hm0) (by have := H.out.2.2.2.2.2.2; omega) (by decide) (by rw [ho]; omega))
      have hme := fun w => meth_takerWrite ⟨b, 0, none⟩ w
      rw [← hm, ← ho] at hns
      rw [← hfl] at hes
      rw [← hm] at hm0
      have n0 : 0 ≤ n := by omega
      have n1 : n ≤ 2000 := by omega
      have o0 : 0 ≤ own := by omega
      have o1 : own ≤ 2000 := by omega
      have hbw : b < w.heap.size := by rw [hb]; exact (HT.out.tk k hkb hlt).lt
      have HS := Lib.hid (And.intro hn (And.intro hns (And.intro hes (And.intro hlt (And.intro hE (And.intro hS (And.intro hkb (And.intro hm (And.intro hfl (And.intro hbw (And.intro (show tkE (L.take k) ≤ 100 by have := H.out.2.2.2.2.1; omega) (show ∃ h : k < bs.length, b = bs[k] from ⟨hkb, hb⟩))))))))))))
      unfold ifc at hc
      clear hn hns hes hbd hel hel2 hm hfl ho hm0 hE hS hTk hT2 hpb hbw hb
      go_wp2_with fail
      go_at_call 222
      refine Hw.out.mono ?_
      rintro r w2 ⟨rfl, hT3, hK3⟩
      have hE2 := HS.out.2.2.2.2.1.put hK3 HS.out.2.2.2.2.2.2.2.2.2.1
      have hsz2 : w.heap.size ≤ w2.heap.size := Nat.le_trans HS.out.2.2.2.2.2.1.size hK3.size
      have Hz := Lib.hid (zzAll_any u6 fl w2 hE2 hsz2 HS.out.2.2.2.2.2.2.2.2.2.2.1)
      have HT3 := Lib.hid (And.intro hT3 hK3)
      clear hT3 hK3 hE2 hsz2
      go_wp2_with fail
      go_at_call 324
      refine Hz.out.mono ?_
      rintro r w3 ⟨v', rfl, hE3, hb3⟩
      have hE4 : ErrIs w.heap.size (tkE (L.take (k + 1))) v' w3 := by rw [HS.out.2.2.1]; exact hE3
      have hS4 : MwS w L bs t (k + 1) w3 := by
        obtain ⟨hkb, hb⟩ := HS.out.2.2.2.2.2.2.2.2.2.2.2
        obtain ⟨hT3, hK3⟩ := HT3.out
        have e : (⟨#[]⟩ : ByteArray) ++ t = t := ByteArray.ext (by rw [ByteArray.data_append]; simp)
        rw [e, hb, HS.out.2.2.2.2.2.2.2.1, HS.out.2.2.2.2.2.2.2.2.1] at hT3
        rw [hb] at hK3
        exact HS.out.2.2.2.2.2.1.step hkb HS.out.2.2.2.1 H.out.2.1 hT3 hK3 hb3
      have HF := Lib.hid (And.intro hE4 hS4)
      clear hE3 hb3 hE4 hS4 Hz Hw
      by_cases hn0 : n = 0
      · subst hn0
        by_cases ho0 : own = 0
        · subst ho0
          go_wp2
          exact ⟨⟨k + 1, _, by go_num, rfl, HS.out.2.2.2.1, by rw [HS.out.2.1, ← HS.out.1]; rfl, HF.out.1, HF.out.2⟩, by have := HS.out.2.2.2.1; simp [intOf]; omega⟩
        · have hb1 : (own != 0) = true := by simpa using ho0
          have HN := Lib.hid ho0
          clear ho0
          go_wp2
          exact ⟨⟨k + 1, _, by go_num, rfl, HS.out.2.2.2.1, by rw [HS.out.2.1, ← HS.out.1]; unfold tkStep; rw [if_pos ⟨rfl, HN.out⟩], HF.out.1, HF.out.2⟩, by have := HS.out.2.2.2.1; simp [intOf]; omega⟩
      · have hb1 : (n == 0) = false := by simpa using hn0
        have HN := Lib.hid hn0
        clear hn0
        by_cases hlo : own < n
        · have HL := Lib.hid hlo
          go_wp2
          exact ⟨⟨k + 1, _, by go_num, rfl, HS.out.2.2.2.1, by rw [HS.out.2.1, ← HS.out.1]; unfold tkStep; rw [if_neg (fun h => HN.out h.1), if_pos HL.out], HF.out.1, HF.out.2⟩, by have := HS.out.2.2.2.1; simp [intOf]; omega⟩
        · have HL := Lib.hid hlo
          have hge : n ≤ own := by omega
          clear hlo
          go_wp2
          exact ⟨⟨k + 1, _, by go_num, rfl, HS.out.2.2.2.1, by rw [HS.out.2.1, ← HS.out.1]; unfold tkStep; rw [if_neg (fun h => HN.out h.1), if_neg (by have := HL.out; omega)], HF.out.1, HF.out.2⟩, by have := HS.out.2.2.2.1; simp [intOf]; omega⟩
    · have hge : (L.length : Int) ≤ (k : Int) := by omega
      have hkL : k = L.length := by omega
      have HS := Lib.hid (And.intro hn (And.intro hkL (And.intro hE hS)))
      clear hn hkL hlt hk hE hS
      go_wp2
      go_ret2
      refine ⟨n, _, rfl, ?_, ?_, ?_⟩
      · rw [HS.out.1, HS.out.2.1, List.take_length]
      · have := HS.out.2.2.1
        rw [HS.out.2.1, List.take_length] at this
        exact this
      · have := HS.out.2.2.2
        rw [HS.out.2.1] at this
        exact this
end Go.Proofs.YtchmhdmapknmfaaGreatDoor
