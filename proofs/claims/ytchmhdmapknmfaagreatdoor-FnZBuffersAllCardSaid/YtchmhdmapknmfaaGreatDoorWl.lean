/-
  ZBuffered.
-/
import Derived.Test.YtchmhdmapknmfaaGreatDoorWk
import Derived.Test.YtchmhdmapknmfaaGreatDoorWd
namespace Go.Proofs.YtchmhdmapknmfaaGreatDoor
open Go.RowKit

theorem conv_kt (t : ByteArray) (w : World) : ∃ (C : Nat) (W : World) (cs : Array Value) (z : Nat × Nat), (convert 9 101 (.string t)).run Tryz.prog w = .ok (.slice (some ⟨w.heap.size, 0, none⟩) t.size C) W ∧ PBy w.heap.size t W ∧ W.heap[w.heap.size]? = some (Obj.cells cs 5 z) ∧ ∀ B, B ≤ w.heap.size → KT [] B w W := by
  have h := run_bytes_of_string (P := Tryz.prog) w 9 101 5 t Tryz.underlying9 Tryz.underlying101 Tryz.underlying5
  have hc : (w.drew.alloc (.cells (bytesRow t (grownCap w t.size 0 5)) 5 ((bytesRow t (grownCap w t.size 0 5)).size, (bytesRow t (grownCap w t.size 0 5)).size + 1))).heap[w.heap.size]? = _ := heap_alloc_new w.drew _
  refine ⟨_, _, _, _, h, ⟨by simp, fun j hj => ?_⟩, hc, fun B hB => ((KT.refl [] B w).drewN 1).alloc hB _⟩
  rw [add_lit, cell_of_row _ _ j _ _ _ hc]
  have hj' : j < t.data.size := by simpa using hj
  unfold bytesRow
  rw [Array.getElem?_append_left (by simpa using hj'), Array.getElem?_map, Array.getElem?_eq_getElem hj']
  simp

def OpIs (p : Nat) (t : ByteArray) (x y : Bool) (w : World) : Prop := w.heap[p]? = some (.cells #[.string t, .bool x, .bool y] 59 (0, 0))
theorem OpIs.cells {p : Nat} {t : ByteArray} {x y : Bool} {w : World} (h : OpIs p t x y w) : w.cell? ⟨p, 0, none⟩ = some (.string t) ∧ w.cell? ⟨p, 1, none⟩ = some (.bool x) ∧ w.cell? ⟨p, 2, none⟩ = some (.bool y) := by
  unfold OpIs at h
  simp [World.cell?, h]

theorem bs_start (w : World) (sz : Nat) (n : Int) (o1 o2 : Obj) (h1 : o1 = .cells #[.slice none 0 0] 130 (0, 0)) (h2 : o2 = .cells #[.iface 128 (.pointer (some ⟨w.heap.size, 0, none⟩)), .int .i64 n, .bool false, .bool false, .pointer none] 134 (0, 0)) :
    BsIs w.heap.size w.heap.size (w.heap.size + 1) sz n zb0 ((w.alloc o1).alloc o2) ∧ KT TB w.heap.size w ((w.alloc o1).alloc o2) := by
  subst h1; subst h2
  have k := ((KT.refl TB w.heap.size w).alloc (Nat.le_refl _) (.cells #[.slice none 0 0] 130 (0, 0))).alloc (Nat.le_refl _) (.cells #[.iface 128 (.pointer (some ⟨w.heap.size, 0, none⟩)), .int .i64 n, .bool false, .bool false, .pointer none] 134 (0, 0))
  refine ⟨⟨⟨.slice none 0 0, ?_, World.ownsRow_nil _ _ _ _⟩, ⟨.pointer none, ?_, fun h => by cases h⟩, Nat.le_refl _, Nat.le_succ _, k.below.size⟩, k⟩
  · exact (heap_alloc_old _ _ (by simp)).trans (heap_alloc_new w _)
  · have := heap_alloc_new (w.alloc (.cells #[.slice none 0 0] 130 (0, 0))) (.cells #[.iface 128 (.pointer (some ⟨w.heap.size, 0, none⟩)), .int .i64 n, .bool false, .bool false, .pointer none] 134 (0, 0))
    rw [World.size_alloc] at this
    exact this

def BuRel (w0 : World) (b s sz : Nat) (n : Int) (L : List ZbOp) (v19 : Value) (wr : World) : Prop :=
  ∃ k : Nat, v19 = .int .i64 (k : Int) ∧ k ≤ L.length ∧ BsIs w0.heap.size b s sz n (zbRun sz (L.take k)) wr ∧ Below w0.heap.size w0 wr

set_option maxRecDepth 100000 in
set_option maxHeartbeats 4000000 in
theorem zBuffered_any (n : Int) (v : Value) (L : List ZbOp) (w : World) (h : ZoArr v L w) (hL : L.length ≤ 101) (hn : n ≤ 300000) (ht : ∀ o ∈ L, o.text.size ≤ 5000) :
    Calls Tryz.prog 32 #[.int .i64 n, v] w (PcPost w (zbSize n) L) := by
  obtain ⟨pv, capv, rfl⟩ := h.slice
  obtain ⟨sz, hsz⟩ : ∃ sz, sz = zbSize n := ⟨_, rfl⟩
  rw [← hsz]
  have hmin : min n 1048576 = n := by omega
  have HA := Lib.hid (And.intro h (And.intro hL (And.intro ht (And.intro hsz hn))))
  have HB := Lib.hid (fun o1 o2 => bs_start w sz n o1 o2)
  have hlI : (L.length : Int) ≤ 101 := by omega
  clear h hL ht hsz hn
  go_enter Tryz.func32, Tryz.ntmps32
  go_wp2_with fail
  go_loopw [19] (fun v19 wr => BuRel w w.heap.size (w.heap.size + 1) sz n L v19 wr) (fun v19 _ => L.length - (intOf v19).toNat)
  case atStart => exact ⟨0, rfl, Nat.zero_le _, (HB.out _ _ rfl rfl).1, (HB.out _ _ rfl rfl).2.below⟩
  case round =>
    obtain ⟨k, rfl, hk, hS, hB⟩ := hrel
    by_cases hlt : k < L.length
    · rcases HA.out.1 with ⟨hnil, -⟩ | ⟨b, off, cap, hv, hb, hc⟩
      · rw [hnil] at hlt; simp at hlt
      · obtain ⟨rfl, -⟩ : pv = some ⟨b, off, none⟩ ∧ capv = cap := by simpa using hv
        obtain ⟨c0, c1, c2⟩ := hc k hlt
        rw [← hB.cell hb] at c0
        rw [← hB.cell hb] at c1
        rw [← hB.cell hb] at c2
        obtain ⟨t, hT⟩ : ∃ t, t = L[k].text := ⟨_, rfl⟩
        obtain ⟨x, hx⟩ : ∃ x, x = L[k].sync := ⟨_, rfl⟩
        obtain ⟨y, hy⟩ : ∃ y, y = L[k].stop := ⟨_, rfl⟩
        rw [← hT] at c0
        rw [← hx] at c1
        rw [← hy] at c2
        have hkI : (k : Int) < (L.length : Int) := by omega
        obtain ⟨s, hs⟩ : ∃ s, s = zbRun sz (L.take k) := ⟨_, rfl⟩
        have hok : s.Ok sz := by rw [hs]; exact zbRun_ok sz _
        have hol : s.out.length ≤ 404 := by
          have h1 := zbRun_len sz (L.take k)
          have h2 : (L.take k).length ≤ k := List.length_take_le _ _
          have h3 := HA.out.2.1
          rw [hs]
          omega
        have hts : t.size ≤ 5000 := by rw [hT]; exact HA.out.2.2.1 _ (List.getElem_mem hlt)
        have hstep : zbRun sz (L.take (k + 1)) = (((s.write sz t).sync x).stop y) := by
          rw [zbRun_snoc sz L k hlt, ← hs, hT, hx, hy]
          rfl
        rw [← hs] at hS
        have k0 : KT [] w.heap.size wr (wr.alloc (.cells #[.string t, .bool x, .bool y] 59)) := (KT.refl [] w.heap.size wr).alloc hS.lw _
        have hS0 := hS.keep k0 rfl
        have hop : OpIs wr.heap.size t x y (wr.alloc (.cells #[.string t, .bool x, .bool y] 59)) := heap_alloc_new wr _
        have hB0 := hB.trans k0.below
        have HS := Lib.hid (And.intro hok (And.intro hol (And.intro hts (And.intro hstep (And.intro hlt (And.intro hS0 (And.intro hB0 hop)))))))
        clear hs hT hx hy hc hb hv hk hok hol hstep hlt hS hB hS0 hB0 hop k0
        go_upto_if 25 with fail
        go_cut [] from 20 to 39 (fun wc => BsIs w.heap.size w.heap.size (w.heap.size + 1) sz n (s.write sz t) wc ∧ Below w.heap.size w wc ∧ OpIs wr.heap.size t x y wc)
        case first =>
          obtain ⟨hok, hol, hts, -, -, hS0, hB0, hop⟩ := HS.out
          by_cases h0 : t.size = 0
          · have he := zb_empty h0
            have hw : s.write sz t = s := by unfold Zb.write; rw [if_pos h0]
            have HW := Lib.hid (And.intro hw (And.intro hS0 (And.intro hB0 hop)))
            clear h0 hw hS0 hB0 hop hok hol hts
            simp only [he, Bool.not_true]
            go_wp2_with fail
            go_meet
            rw [HW.out.1]
            exact HW.out.2
          · have he := zb_some h0
            obtain ⟨C, W, cs, z, hcv, hp, hg, hkt⟩ := conv_kt t (wr.alloc (.cells #[.string t, .bool x, .bool y] 59))
            have kk := hkt w.heap.size hS0.lw
            rw [World.size_alloc] at hcv hp hg
            have Hw := Lib.hid (bsWrite_any (cap := C) n s t W (hS0.keep kk rfl) hok HA.out.2.2.2.1 HA.out.2.2.2.2 hp cs z hg h0 hts (by omega))
            have HW := Lib.hid (And.intro (hB0.trans kk.below) (show OpIs wr.heap.size t x y W from kk.keep _ _ _ _ hop (by simp)))
            clear h0 hp hg hkt kk hS0 hB0 hop hok hol hts
            simp only [he, Bool.not_false]
            go_wp2_with fail
            go_at_call 62
            refine Hw.out.mono ?_
            rintro r w2 ⟨rfl, h2, h3⟩
            have H2 := Lib.hid (And.intro h2 (And.intro (HW.out.1.trans h3.below) (show OpIs wr.heap.size t x y w2 from h3.keep _ _ _ _ HW.out.2 (by decide))))
            clear h2 h3
            go_wp2_with fail
            go_meet
            exact H2.out
        case rest =>
          obtain ⟨hS1, hB1, hop1⟩ := hcut
          have hok1 := HS.out.1.write t
          have hl1 := Zb.write_len s sz t
          have hl0 := HS.out.2.1
          have hst := HS.out.2.2.2.1
          obtain ⟨s1, hs1⟩ : ∃ s1, s1 = s.write sz t := ⟨_, rfl⟩
          rw [← hs1] at hS1 hok1 hl1 hst
          obtain ⟨d0, d1, d2⟩ := hop1.cells
          have Hy := Lib.hid (bsSync_any n s1 wc hS1 hok1 HA.out.2.2.2.1 HA.out.2.2.2.2 (by omega))
          have HV := Lib.hid (And.intro hS1 (And.intro hB1 (And.intro hop1 (And.intro hst (And.intro hok1 (show s1.out.length ≤ 406 by omega))))))
          clear hS1 hB1 hop1 hst hok1 hl1 hl0 hs1
          go_upto_if 32 with fail
          go_cut [] from 20 to 39 (fun wc => BsIs w.heap.size w.heap.size (w.heap.size + 1) sz n (s1.sync x) wc ∧ Below w.heap.size w wc ∧ OpIs wr.heap.size t x y wc)
          case first =>
            cases x with
            | false =>
              have HX := Lib.hid (And.intro HV.out.1 (And.intro HV.out.2.1 HV.out.2.2.1))
              go_wp2_with fail
              go_meet
              exact HX.out
            | true =>
              go_wp2_with fail
              go_at_call 63
              refine Hy.out.mono ?_
              rintro r w2 ⟨rfl, h2, h3⟩
              have H2 := Lib.hid (And.intro h2 (And.intro (HV.out.2.1.trans h3.below) (show OpIs wr.heap.size t true y w2 from h3.keep _ _ _ _ HV.out.2.2.1 (by decide))))
              clear h2 h3
              go_wp2_with fail
              go_meet
              exact H2.out
          case rest =>
            obtain ⟨hS2, hB2, hop2⟩ := hcut
            have hst := HV.out.2.2.2.1
            have hok2 := HV.out.2.2.2.2.1.sync x
            have hl2 := Zb.sync_len s1 x
            have hl1 := HV.out.2.2.2.2.2
            obtain ⟨s2, hs2⟩ : ∃ s2, s2 = s1.sync x := ⟨_, rfl⟩
            rw [← hs2] at hS2 hok2 hl2 hst
            obtain ⟨e0, e1, e2⟩ := hop2.cells
            have Hz := Lib.hid (bsStop_any n s2 wc hS2 hok2 HA.out.2.2.2.1 HA.out.2.2.2.2 (by omega))
            have HX := Lib.hid (And.intro hS2 (And.intro hB2 hst))
            clear hS2 hB2 hop2 hst hok2 hl2 hl1 hs2 d0 d1 d2
            cases y with
            | false =>
              have e : zbRun sz (L.take (k + 1)) = s2 := by rw [HX.out.2.2]; rfl
              have HE := Lib.hid e
              clear e
              go_wp2_with fail
              exact ⟨⟨k + 1, by go_num, HS.out.2.2.2.2.1, by rw [HE.out]; exact HX.out.1, HX.out.2.1⟩, by have := HS.out.2.2.2.2.1; simp [intOf]; omega⟩
            | true =>
              have HE := Lib.hid HX.out.2.2
              go_wp2_with fail
              go_at_call 64
              refine Hz.out.mono ?_
              rintro r w2 ⟨rfl, h2, h3⟩
              have H2 := Lib.hid (And.intro h2 (HX.out.2.1.trans h3.below))
              clear h2 h3
              go_wp2_with fail
              exact ⟨⟨k + 1, by go_num, HS.out.2.2.2.2.1, by rw [HE.out]; exact H2.out.1, H2.out.2⟩, by have := HS.out.2.2.2.2.1; simp [intOf]; omega⟩
    · have hge : (L.length : Int) ≤ (k : Int) := by omega
      have hkL : k = L.length := by omega
      have e : zbRun sz (L.take k) = zbRun sz L := by rw [hkL, List.take_length]
      rw [e] at hS
      obtain ⟨vo, h1, h2⟩ := hS.out
      have c0 := cell_of_one h1
      have HS := Lib.hid (And.intro h2 hB)
      clear hS hB hkL hlt hk e h1 h2
      go_wp2
      go_ret
      exact ⟨_, rfl, HS.out⟩
end Go.Proofs.YtchmhdmapknmfaaGreatDoor
