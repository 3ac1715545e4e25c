/-
  ZPieces, the walk.
-/
import Derived.Test.YtchmhdmapknmfaaGreatDoorWc
import Derived.Deep.CutRange
namespace Go.Proofs.YtchmhdmapknmfaaGreatDoor
open Go.RowKit

theorem Zb.sync_begun (s : Zb) (b : Bool) : (s.sync b).begun = s.begun := by
  unfold Zb.sync
  split
  · exact Zb.flush_begun s
  · rfl
theorem Zb.sync_stopped (s : Zb) (b : Bool) : (s.sync b).stopped = s.stopped := by
  unfold Zb.sync
  split
  · exact Zb.flush_stopped s
  · rfl
theorem Zb.write_stopped (s : Zb) (sz : Nat) (t : ByteArray) : (s.write sz t).stopped = s.stopped := by
  unfold Zb.write
  split
  · rfl
  · have h := Zb.room_stopped ({ s with begun := true } : Zb) sz t
    unfold Zb.lay
    split <;> exact h

/-- A state does not tell pieces by whether it has begun. -/
theorem PcIs.same {b : Nat} {s s' : Zb} {w : World} (h : PcIs b s w) (e1 : s'.out = s.out) (e2 : s'.wait = s.wait) : PcIs b s' w := by
  unfold PcIs
  rw [e1, e2]
  exact h

theorem PcIs.cells {b : Nat} {s : Zb} {w : World} (h : PcIs b s w) : ∃ vo, w.cell? ⟨b, 0, none⟩ = some vo ∧ w.frozen? ⟨b, 0, none⟩ = false ∧ w.cell? ⟨b + 1, 0, none⟩ = some (.string s.wait) ∧ w.frozen? ⟨b + 1, 0, none⟩ = false ∧
    w.heap[b]? = some (.cells #[vo] 22 (0, 0)) ∧ w.heap[b + 1]? = some (.cells #[.string s.wait] 9 (0, 0)) ∧ w.ownsRow (b + 2) 9 1 vo s.out.length (s.out.map .string) := by
  obtain ⟨vo, h1, h2, h3⟩ := h
  exact ⟨vo, cell_of_one h1, free_of_one h1, cell_of_one h2, free_of_one h2, h1, h2, h3⟩

def PcRel (w0 : World) (sz : Nat) (L : List ZbOp) (v7 v8 v10 : Value) (wr : World) : Prop :=
  ∃ (k : Nat) (s : Zb), v10 = .int .i64 (k : Int) ∧ k ≤ L.length ∧ s = zbRun sz (L.take k) ∧ v7 = .bool s.begun ∧ v8 = .bool s.stopped ∧ PcIs w0.heap.size s wr ∧ Below w0.heap.size w0 wr

def PcPost (w0 : World) (sz : Nat) (L : List ZbOp) (r : Ending) (w' : World) : Prop :=
  ∃ vo, r = .returned vo ∧ w'.ownsRow w0.heap.size 9 1 vo (zbRun sz L).out.length ((zbRun sz L).out.map .string) ∧ Below w0.heap.size w0 w'

theorem row_base {w : World} {B B' e size n : Nat} {v : Value} {xs : List Value} (h : w.ownsRow B e size v n xs) (hb : B' ≤ B) : w.ownsRow B' e size v n xs := by
  obtain ⟨h1, h2 | ⟨g, cap, cur, hv, hg, rest⟩⟩ := h
  · exact ⟨h1, .inl h2⟩
  · exact ⟨h1, .inr ⟨g, cap, cur, hv, by omega, rest⟩⟩

theorem pc_start (w : World) (o1 o2 : Obj) (h1 : o1 = .cells #[.slice none 0 0] 22 (0, 0)) (h2 : o2 = .cells #[.string ⟨#[]⟩] 9 (0, 0)) : PcIs w.heap.size zb0 ((w.alloc o1).alloc o2) ∧ Below w.heap.size w ((w.alloc o1).alloc o2) := by
  subst h1; subst h2
  refine ⟨⟨.slice none 0 0, ?_, ?_, World.ownsRow_nil _ _ _ _⟩, ((Below.refl _ w).alloc (Nat.le_refl _) _).alloc (by simp) _⟩
  · exact (heap_alloc_old _ _ (by simp)).trans (heap_alloc_new w _)
  · have := heap_alloc_new (w.alloc (.cells #[.slice none 0 0] 22 (0, 0))) (.cells #[.string ⟨#[]⟩] 9 (0, 0))
    rw [World.size_alloc] at this
    exact this

set_option maxRecDepth 100000 in
set_option maxHeartbeats 4000000 in
theorem pieces_any (n : Int) (v : Value) (L : List ZbOp) (w : World) (h : ZoArr v L w) (hL : L.length ≤ 101) (hn : n ≤ 300000) (ht : ∀ o ∈ L, o.text.size ≤ 5000) :
    Calls Tryz.prog 33 #[.int .i64 n, v] w (PcPost w (zbSize n) L) := by
  obtain ⟨i3, hi3, hz3, hs3, hb3⟩ := info_parts Tryz.info9
  obtain ⟨pv, capv, rfl⟩ := h.slice
  obtain ⟨sz, hsz⟩ : ∃ sz, sz = zbSize n := ⟨_, rfl⟩
  rw [← hsz]
  obtain ⟨n1, hn1⟩ : ∃ n1 : Int, n1 = if n = 0 then 262144 else n := ⟨_, rfl⟩
  have hs1 : (sz : Int) = if n1 < 0 then 4096 else n1 := by
    rw [hsz, hn1]
    unfold zbSize
    by_cases h0 : n = 0
    · rw [if_pos h0, if_pos h0, if_neg (by omega)]
      rfl
    · rw [if_neg h0, if_neg h0]
      by_cases h1 : n < 0
      · rw [if_pos h1, if_pos h1]
        rfl
      · rw [if_neg h1, if_neg h1]
        omega
  have hszp : 0 < sz := by rw [hsz]; exact zbSize_pos n
  have hszl : sz ≤ 300000 := by rw [hsz]; exact zbSize_le hn
  have HN := Lib.hid (And.intro hn1 hs1)
  have HA := Lib.hid (And.intro h (And.intro hL (And.intro ht (And.intro hszp hszl))))
  have hlI : (L.length : Int) ≤ 101 := by omega
  have hsI : (sz : Int) ≤ 300000 := by omega
  have hs0 : (0 : Int) < (sz : Int) := by omega
  clear h hL ht hsz hn1 hs1 hszp hszl
  go_enter Tryz.func33, Tryz.ntmps33
  go_upto_if 13 with fail
  go_cut [0] from 12 (fun v0 wc => v0 = .int .i64 n1 ∧ w = wc)
  case first =>
    by_cases h0 : n = 0
    · subst h0
      go_wp2
      go_meet
      exact ⟨by rw [HN.out.1]; rfl, rfl⟩
    · have hb : (n == 0) = false := by simpa using h0
      have H0 := Lib.hid h0
      clear h0
      go_wp2
      go_meet
      exact ⟨by rw [HN.out.1, if_neg H0.out], rfl⟩
  case rest =>
    obtain ⟨rfl, rfl⟩ := hcut
    go_upto_if 15 with fail
    go_cut [0] from 12 (fun v0 wc => v0 = .int .i64 (sz : Int) ∧ w = wc)
    case first =>
      by_cases h0 : n1 < 0
      · have H0 := Lib.hid h0
        go_wp2
        go_meet
        exact ⟨by rw [HN.out.2, if_pos H0.out], rfl⟩
      · have H0 := Lib.hid h0
        have h1 : 0 ≤ n1 := by omega
        clear h0
        go_wp2
        go_meet
        exact ⟨by rw [HN.out.2, if_neg (by have := H0.out; omega)], rfl⟩
    case rest =>
      obtain ⟨rfl, rfl⟩ := hcut
      go_wp2_with fail
      go_loopw [7, 8, 10] (fun v7 v8 v10 wr => PcRel w sz L v7 v8 v10 wr) (fun _ _ v10 _ => L.length - (intOf v10).toNat)
      case atStart => exact ⟨0, zb0, rfl, Nat.zero_le _, rfl, rfl, rfl, (pc_start w _ _ rfl rfl).1, (pc_start w _ _ rfl rfl).2⟩
      case round =>
        obtain ⟨k, s, rfl, hk, hs, rfl, rfl, hP, hB⟩ := hrel
        by_cases hlt : k < L.length
        · rcases HA.out.1 with ⟨hnil, -⟩ | ⟨b, off, cap, hv, hb, hc⟩
          · rw [hnil] at hlt; simp at hlt
          · obtain ⟨rfl, -⟩ : pv = some ⟨b, off, none⟩ ∧ capv = cap := by simpa using hv
            obtain ⟨c0, c1, c2⟩ := hc k hlt
            obtain ⟨t, hT⟩ : ∃ t, t = L[k].text := ⟨_, rfl⟩
            obtain ⟨x, hx⟩ : ∃ x, x = L[k].sync := ⟨_, rfl⟩
            obtain ⟨y, hy⟩ : ∃ y, y = L[k].stop := ⟨_, rfl⟩
            rw [← hT] at c0
            rw [← hx] at c1
            rw [← hy] at c2
            have hkI : (k : Int) < (L.length : Int) := by omega
            have hok : s.Ok sz := by rw [hs]; exact zbRun_ok sz _
            have hol : s.out.length ≤ 404 := by
              have h1 := zbRun_len sz (L.take k)
              have h2 : (L.take k).length ≤ k := List.length_take_le _ _
              have h3 := HA.out.2.1
              rw [hs]
              omega
            have hts : t.size ≤ 5000 := by rw [hT]; exact HA.out.2.2.1 _ (List.getElem_mem hlt)
            have hstep : zbRun sz (L.take (k + 1)) = (((s.write sz t).sync x).stop y) := by
              rw [zbRun_snoc sz L k hlt, ← hs, hT, hx, hy]
              rfl
            have HC := Lib.hid (fun (W : World) (hW : Below w.heap.size w W) => And.intro ((hW.cell hb).trans c0) (And.intro ((hW.cell hb).trans c1) ((hW.cell hb).trans c2)))
            have HS := Lib.hid (And.intro hok (And.intro hol (And.intro hts (And.intro hstep (And.intro hlt (And.intro hP hB))))))
            have c0r := (HC.out wr hB).1
            clear hs hT hx hy hc hb hv hk c0 c1 c2 hok hol hstep hlt hP hB
            go_upto_if 29 with fail
            go_cut [7] from 17 to 70 (fun v7 wc => v7 = .bool (s.write sz t).begun ∧ PcIs w.heap.size (s.write sz t) wc ∧ Below w.heap.size w wc)
            case first =>
              have hP := HS.out.2.2.2.2.2.1
              have hB := HS.out.2.2.2.2.2.2
              by_cases h0 : t.size = 0
              · have he := zb_empty h0
                have hw : s.write sz t = s := by unfold Zb.write; rw [if_pos h0]
                have HW := Lib.hid (And.intro hw (And.intro hP hB))
                clear h0 hw hP hB hts
                simp only [he, Bool.not_true]
                go_wp2
                go_meet
                rw [HW.out.1]
                exact ⟨rfl, HW.out.2⟩
              · have he := zb_some h0
                obtain ⟨s0, hs0'⟩ : ∃ s0 : Zb, s0 = { s with begun := true } := ⟨_, rfl⟩
                have hw : s.write sz t = (s0.room sz t).lay sz t := by unfold Zb.write; rw [if_neg h0, ← hs0']
                have hP0 : PcIs w.heap.size s0 wr := hP.same (by rw [hs0']) (by rw [hs0'])
                have hok0 : s0.wait.size ≤ sz := by rw [hs0']; exact HS.out.1.fit
                have hol0 : s0.out.length ≤ 404 := by rw [hs0']; exact HS.out.2.1
                have hbg : s0.begun = true := by rw [hs0']
                have Hf := Lib.hid (flush65_any s0 wr hP0 (by omega))
                obtain ⟨vo, d1, d2, d3, d4, -⟩ := hP0.cells
                obtain ⟨a, ha⟩ : ∃ a, a = s0.wait := ⟨_, rfl⟩
                rw [← ha] at d3
                have haI : (a.size : Int) ≤ (sz : Int) := by rw [ha]; omega
                have HW := Lib.hid (And.intro hw (And.intro hP0 (And.intro hB (And.intro ha (And.intro hol0 hbg)))))
                clear h0 hw hP hP0 hB ha hok0 hol0 hbg hs0'
                simp only [he, Bool.not_false]
                go_upto_if 36 with fail
                go_cut [] from 28 to 70 (fun wc => PcIs w.heap.size (s0.room sz t) wc ∧ Below w.heap.size w wc)
                case first =>
                  by_cases hr : (sz : Int) - (a.size : Int) < (t.size : Int)
                  · have HR := Lib.hid hr
                    go_wp2_with fail
                    go_at_call 65
                    refine Hf.out.mono ?_
                    rintro r w2 ⟨rfl, hP2, hB2⟩
                    have H2 := Lib.hid (And.intro hP2 (HW.out.2.2.1.trans hB2))
                    clear hP2 hB2
                    go_wp2_with fail
                    go_meet
                    unfold Zb.room
                    rw [if_pos (by rw [← HW.out.2.2.2.1]; exact HR.out)]
                    exact H2.out
                  · have HR := Lib.hid hr
                    have hr2 : (t.size : Int) ≤ (sz : Int) - (a.size : Int) := by omega
                    clear hr
                    go_wp2_with fail
                    go_meet
                    unfold Zb.room
                    rw [if_neg (by rw [← HW.out.2.2.2.1]; have := HR.out; omega)]
                    exact ⟨HW.out.2.1, HW.out.2.2.1⟩
                case rest =>
                  have hlen : (s0.room sz t).out.length ≤ 405 := by
                    have h1 := Zb.room_len s0 sz t
                    have h2 := HW.out.2.2.2.2.1
                    omega
                  have hbg : (s0.room sz t).begun = true := by rw [Zb.room_begun]; exact HW.out.2.2.2.2.2
                  have hfit : ¬ sz < t.size → (s0.room sz t).wait.size + t.size ≤ sz := fun h => Zb.room_fits s0 sz t (by omega)
                  have hw := HW.out.1
                  obtain ⟨s1, hs1⟩ : ∃ s1, s1 = s0.room sz t := ⟨_, rfl⟩
                  rw [← hs1] at hcut hlen hbg hfit hw
                  obtain ⟨hP1, hB1⟩ := hcut
                  obtain ⟨vo1, e1, e2, e3, e4, e5, e6, e7⟩ := hP1.cells
                  obtain ⟨a1, ha1⟩ : ∃ a1, a1 = s1.wait := ⟨_, rfl⟩
                  rw [← ha1] at e3
                  rw [← ha1] at hfit
                  have hwl := hP1.lt
                  have HV := Lib.hid (And.intro hP1 (And.intro hB1 (And.intro hbg (And.intro hw (And.intro ha1 (And.intro hlen (And.intro e5 (And.intro e6 (And.intro e7 hwl)))))))))
                  clear hP1 hB1 hbg hw ha1 hlen e5 e6 e7 hwl hs1 HW Hf
                  by_cases hbig : sz < t.size
                  · have hbI : (sz : Int) < (t.size : Int) := by omega
                    have HG := Lib.hid hbig
                    clear hbig hfit
                    go_wp2_with (at_builtin; refine wpList_append_own _ rfl _ _ 22 rfl (w.heap.size + 2) 9 i3 (.string ⟨#[]⟩) 1 16 Tryz.underlying22 hi3 hz3 hs3 hb3 rfl (by decide) vo1 s1.out.length (s1.out.map .string) rfl (HV.out.2.2.2.2.2.2.2.2.1.alloc _) ⟨wc.heap.size, 0, none⟩ 1 1 [.string t] rfl rfl ?e1 ?e2 ?e3 ?e4 ?e5 ?_)
                    case e1 => exact one_at (new_at rfl)
                    case e2 => simp [Value.oneCell']
                    case e3 => have := HV.out.2.2.2.2.2.1; unfold maxLen; omega
                    case e4 => have := HV.out.2.2.2.2.2.1; omega
                    case e5 => have := HV.out.2.2.2.2.2.2.2.2.2; simp; omega
                    intro v2 w2 hown hgrow _
                    obtain ⟨pv2, kv2, rfl⟩ := slice_of_own hown
                    have hP := PcIs.put HV.out.2.2.2.2.2.2.1 HV.out.2.2.2.2.2.2.2.1 HV.out.2.2.2.2.2.2.2.2.1 hgrow hown
                    have hb0 := HV.out.2.2.2.2.2.2.2.2.2
                    have q1 : w2.heap[w.heap.size]? = some (.cells #[vo1] 22 (0, 0)) := by
                      rw [hgrow.block w.heap.size (by simp only [World.size_alloc]; omega) (fun e => by have := (HV.out.2.2.2.2.2.2.2.2.1.lt _ e.symm).1; omega), heap_alloc_old wc _ (by omega)]
                      exact HV.out.2.2.2.2.2.2.1
                    have hc := free_of_one q1
                    have hd := cell_of_one q1
                    have H2 := Lib.hid hP
                    clear q1 hb0 hown hgrow hP
                    go_wp2_with fail
                    go_meet
                    refine ⟨?_, ?_, HV.out.2.1.trans H2.out.2⟩
                    · rw [HV.out.2.2.2.1]
                      unfold Zb.lay
                      rw [if_pos HG.out]
                      exact congrArg Value.bool HV.out.2.2.1.symm
                    · rw [HV.out.2.2.2.1]
                      unfold Zb.lay
                      rw [if_pos HG.out]
                      exact H2.out.1
                  · have hbI : (t.size : Int) ≤ (sz : Int) := by omega
                    have hcat : ¬ (9223372036854775807 < a1.size + t.size) := by have := hfit hbig; omega
                    have HG := Lib.hid hbig
                    clear hbig hfit
                    go_wp2_with fail
                    go_meet
                    have hw2 := HV.out.1.wait (a1 ++ t)
                    refine ⟨?_, ?_, HV.out.2.1.trans hw2.2⟩
                    · rw [HV.out.2.2.2.1]
                      unfold Zb.lay
                      rw [if_neg HG.out]
                      exact congrArg Value.bool HV.out.2.2.1.symm
                    · rw [HV.out.2.2.2.1]
                      unfold Zb.lay
                      rw [if_neg HG.out, ← HV.out.2.2.2.2.1]
                      exact hw2.1
            case rest =>
              obtain ⟨rfl, hP1, hB1⟩ := hcut
              have hst := HS.out.2.2.2.1
              have hok1 := HS.out.1.write t
              have hlen1 : (s.write sz t).out.length ≤ 406 := by
                have h1 := Zb.write_len s sz t
                have h2 := HS.out.2.1
                omega
              have hstp := Zb.write_stopped s sz t
              obtain ⟨s1, hs1⟩ : ∃ s1, s1 = s.write sz t := ⟨_, rfl⟩
              rw [← hs1] at hP1 hst hok1 hlen1 hstp ⊢
              have c1w := (HC.out _ hB1).2.1
              have Hf := Lib.hid (flush65_any s1 wc hP1 (by omega))
              have HV := Lib.hid (And.intro hP1 (And.intro hB1 (And.intro hst (And.intro hlen1 hstp))))
              clear hP1 hB1 hst hok1 hlen1 hstp hs1
              go_upto_if 54 with fail
              go_cut [] from 17 to 70 (fun wc => PcIs w.heap.size (s1.sync x) wc ∧ Below w.heap.size w wc)
              case first =>
                cases x with
                | false =>
                  go_wp2_with fail
                  go_meet
                  exact ⟨HV.out.1, HV.out.2.1⟩
                | true =>
                  go_wp2_with fail
                  go_at_call 65
                  refine Hf.out.mono ?_
                  rintro r w2 ⟨rfl, hP2, hB2⟩
                  have H2 := Lib.hid (And.intro hP2 (HV.out.2.1.trans hB2))
                  clear hP2 hB2
                  go_wp2_with fail
                  go_meet
                  exact H2.out
              case rest =>
                obtain ⟨hP2, hB2⟩ := hcut
                have hlen2 := Zb.sync_len s1 x
                have hbg2 := Zb.sync_begun s1 x
                have hst2 := Zb.sync_stopped s1 x
                have hl1 := HV.out.2.2.2.1
                have hs3 := HV.out.2.2.2.2
                have hst := HV.out.2.2.1
                obtain ⟨s2, hs2⟩ : ∃ s2, s2 = s1.sync x := ⟨_, rfl⟩
                rw [← hs2] at hP2 hlen2 hbg2 hst2 hst
                rw [← hbg2]
                rw [hs3] at hst2
                rw [← hst2]
                have c2w := (HC.out _ hB2).2.2
                obtain ⟨s3, hs3'⟩ : ∃ s3 : Zb, s3 = { s2 with stopped := true } := ⟨_, rfl⟩
                have hP3 : PcIs w.heap.size s3 wc := hP2.same (by rw [hs3']) (by rw [hs3'])
                have Hg := Lib.hid (flush65_any s3 wc hP3 (by rw [hs3']; show s2.out.length ≤ 1000; omega))
                have hstep : s2.stop y = if y && s2.begun && !s2.stopped then s3.flush else s2 := by unfold Zb.stop; rw [← hs3']
                have hbg3 : s3.flush.begun = s2.begun := by rw [Zb.flush_begun, hs3']
                have hst3 : s3.flush.stopped = true := by rw [Zb.flush_stopped, hs3']
                obtain ⟨bg, hbg⟩ : ∃ bg, bg = s2.begun := ⟨_, rfl⟩
                obtain ⟨sp, hsp⟩ : ∃ sp, sp = s2.stopped := ⟨_, rfl⟩
                rw [← hbg, ← hsp] at hstep ⊢
                rw [← hbg] at hbg3
                have HX := Lib.hid (And.intro hP2 (And.intro hB2 (And.intro hst (And.intro hstep (And.intro hbg3 (And.intro hst3 (And.intro hbg hsp)))))))
                clear hP2 hB2 hst hstep hbg3 hst3 hbg hsp hlen2 hbg2 hst2 hl1 hs3 hs2 hs3' hP3 Hf HV
                cases y <;> cases bg <;> cases sp
                case true.true.false =>
                  go_wp2_with fail
                  go_at_call 65
                  refine Hg.out.mono ?_
                  rintro r w2 ⟨rfl, hP4, hB4⟩
                  have H4 := Lib.hid (And.intro hP4 (HX.out.2.1.trans hB4))
                  clear hP4 hB4
                  go_wp2_with fail
                  have e : zbRun sz (L.take (k + 1)) = s3.flush := by rw [HX.out.2.2.1, HX.out.2.2.2.1]; rfl
                  exact ⟨⟨k + 1, _, by go_num, HS.out.2.2.2.2.1, rfl, by rw [e, HX.out.2.2.2.2.1], by rw [e, HX.out.2.2.2.2.2.1], by rw [e]; exact H4.out.1, H4.out.2⟩, by have := HS.out.2.2.2.2.1; simp [intOf]; omega⟩
                all_goals
                  go_wp2_with fail
                  have e : zbRun sz (L.take (k + 1)) = s2 := by rw [HX.out.2.2.1, HX.out.2.2.2.1]; rfl
                  exact ⟨⟨k + 1, _, by go_num, HS.out.2.2.2.2.1, rfl, by rw [e, ← HX.out.2.2.2.2.2.2.1], by rw [e, ← HX.out.2.2.2.2.2.2.2], by rw [e]; exact HX.out.1, HX.out.2.1⟩, by have := HS.out.2.2.2.2.1; simp [intOf]; omega⟩
        · have hge : (L.length : Int) ≤ (k : Int) := by omega
          have hkL : k = L.length := by omega
          have hs2 : s = zbRun sz L := by rw [hs, hkL, List.take_length]
          obtain ⟨vo, d1, d2, d3, d4, -, -, d7⟩ := hP.cells
          have HS := Lib.hid (And.intro hs2 (And.intro d7 hB))
          clear hs hP hB hkL hlt hk hs2 d7 d3 d4
          go_wp2
          go_ret
          refine ⟨_, rfl, ?_, HS.out.2.2⟩
          rw [← HS.out.1]
          exact row_base HS.out.2.1 (by omega)
end Go.Proofs.YtchmhdmapknmfaaGreatDoor
