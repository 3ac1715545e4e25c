/-
  FnZBuffersAll: the walk.
-/
import Derived.Test.YtchmhdmapknmfaaGreatDoorWq
namespace Go.Proofs.YtchmhdmapknmfaaGreatDoor
open Go.RowKit

theorem zo_plus (b o j : Nat) : (⟨b, o, none⟩ : Addr).add j = ⟨b, o + j, none⟩ := by unfold Addr.add; split <;> simp_all

/-- What is appended may be the slice that is none, when there is nothing in it. -/
theorem append_rows {P : Program} (w : World) {ops : Array Oper} {rest : List Oper} {o : Oper} {a : Act} {Q : Exit → Act → World → Prop} (hgd : o.guard = none) (s x : Operand) (t : TypeId)
    (ho : o.op = .call { callee := .builtin .append, args := #[s, x], argTypes := #[t, t] })
    (base : Nat) (e : TypeId) (i : TypeInfo) (z : Value) (size bytes : Nat) (ht : P.underlying t = some (.slice e)) (hi : P.info? e = some i) (hz : i.zero = some z)
    (hsize : i.size = size) (hby : i.bytes = bytes) (hzs : z.cells.size = size) (hsz : 0 < size)
    (v : Value) (n : Nat) (xs : List Value) (hs : a.eval s = v) (hown : w.ownsRow base e size v n xs)
    (p : Option Addr) (m c : Nat) (news : List Value) (hx : a.eval x = .slice p m c) (hp : p = none → m = 0) (hl : news.length = m * size) (hnews : ∀ ad, p = some ad → ∀ j u, news[j]? = some u → w.cell? (ad.add j) = some u) (h1 : ∀ u ∈ news, u.oneCell' = true)
    (h63 : n + m ≤ maxLen) (hbytes : (n + m) * bytes ≤ 140737488355328) (hbase : base ≤ w.heap.size)
    (h : ∀ v' w', w'.ownsRow base e size v' (n + m) (xs ++ news) → w.grownBy w' v.ownBlock → wpList P ops Q rest (a.put o.dst v') w') : wpList P ops Q (o :: rest) a w := by
  cases p with
  | some ad => exact wpList_append_own w hgd s x t ho base e i z size bytes ht hi hz hsize hby hzs hsz v n xs hs hown ad m c news hx hl (hnews ad rfl) h1 h63 hbytes hbase fun v' w' h2 h3 _ => h v' w' h2 h3
  | none =>
    obtain rfl : m = 0 := hp rfl
    obtain rfl : news = [] := List.eq_nil_of_length_eq_zero (by simpa using hl)
    have hr : (Builtin.append_ #[t, t] o.type #[v, .slice none 0 c]).run P w = .ok v w := by
      rcases hown.2 with ⟨rfl, rfl⟩ | ⟨g, cap, cur, rfl, _, _, hnc, _⟩
      · simp [Builtin.append_, run_underlying ht, sizeOf, typeInfo, hi, Builtin.lenOf, Builtin.firstCells]
      · simp [Builtin.append_, run_underlying ht, sizeOf, typeInfo, hi, Builtin.lenOf, Builtin.firstCells, hnc, storeCells]
    refine wpList_plain hgd fun _ hK => ?_
    unfold Oper.wp execOp
    simp only [ho, resolve, invoke, builtin, Sem.run_bind, Sem.run_pure, Result.andThen_ok, List.map_toArray, List.map_cons, List.map_nil, hs, hx, hr]
    exact hK _ _ (h v w (by simpa using hown) ⟨rfl, rfl, rfl, Nat.le_refl _, fun _ _ _ => rfl⟩)

set_option maxRecDepth 100000 in
set_option maxHeartbeats 4000000 in
theorem all_main (n : Int) (v : Value) (L : List ZbOp) (w : World) (hp : Pow w) (hH : 11 ≤ w.heap.size) (h : ZoArr v L w) (hL : L.length ≤ 2147483647) :
    Calls Tryz.prog 12 #[.int .i64 n, v] w fun r w' => r = .returned (.bool true) ∧ Below w.heap.size w w' := by
  have Ha := Lib.hid (fun W (hb : Below w.heap.size w W) => awake W (hp.belowB hb hH) (Nat.le_trans hH hb.size))
  have Hf := Lib.hid (fits12_any v L w h hL)
  obtain ⟨pv, capv, rfl⟩ := h.slice
  have HA := Lib.hid h
  have hlB : (L.length : Int) ≤ 2147483647 := by omega
  clear hp hH h hL
  go_enter Tryz.func12, Tryz.ntmps12
  go_wp2_with fail
  go_at_call 30
  refine Hf.out.mono ?_
  rintro r w1 ⟨b, rfl, hb1⟩
  have HB1 := Lib.hid hb1
  clear hb1 Hf
  cases b with
  | false =>
    go_wp2
    go_ret
    exact ⟨rfl, HB1.out⟩
  | true =>
    by_cases hbig : (100 : Int) < (L.length : Int)
    · go_wp2_with fail
      go_at_call 17
      refine (Ha.out _ HB1.out).mono ?_
      rintro r w2 ⟨rfl, hb⟩
      have Hb := Lib.hid (HB1.out.trans (hb.mono HB1.out.size))
      clear hb
      go_wp2
      go_ret
      exact ⟨rfl, Hb.out⟩
    · have hle : (L.length : Int) ≤ 100 := by omega
      clear hbig
      by_cases hnb : (300000 : Int) < n
      · go_wp2_with fail
        go_at_call 17
        refine (Ha.out _ HB1.out).mono ?_
        rintro r w2 ⟨rfl, hb⟩
        have Hb := Lib.hid (HB1.out.trans (hb.mono HB1.out.size))
        clear hb
        go_wp2
        go_ret
        exact ⟨rfl, Hb.out⟩
      · have hn : n ≤ 300000 := by omega
        clear hnb
        go_wp2_with fail
        go_loop [5, 6] (fun v5 v6 => ∃ k : Nat, v5 = .string (zbAll ((L.take k).map ZbOp.text)) ∧ v6 = .int .i64 (k : Int) ∧ k ≤ L.length ∧ ∀ j (h : j < L.length), j < k → L[j].text.size ≤ 5000) (fun _ v6 => L.length - (intOf v6).toNat)
        case atStart => exact ⟨0, rfl, rfl, Nat.zero_le _, fun j _ h => absurd h (Nat.not_lt_zero j)⟩
        case round =>
          obtain ⟨k, rfl, rfl, hk, hall⟩ := hrel
          by_cases hlt : k < L.length
          · rcases HA.out with ⟨hnil, -⟩ | ⟨b, off, cap, hv, hb, hc⟩
            · rw [hnil] at hlt; simp at hlt
            · obtain ⟨rfl, -⟩ : pv = some ⟨b, off, none⟩ ∧ capv = cap := by simpa using hv
              obtain ⟨c0, -, -⟩ := hc k hlt
              rw [← HB1.out.cell hb] at c0
              obtain ⟨t, ht⟩ : ∃ t, t = L[k].text := ⟨_, rfl⟩
              rw [← ht] at c0
              have hkI : (k : Int) < (L.length : Int) := by omega
              have hsum : (zbAll ((L.take k).map ZbOp.text)).size ≤ 5000 * ((L.take k).map ZbOp.text).length := by
                refine zbAll_le 5000 _ fun u hu => ?_
                obtain ⟨o, ho, rfl⟩ := List.mem_map.1 hu
                obtain ⟨j, hj, rfl⟩ := List.getElem_of_mem ho
                rw [List.getElem_take]
                rw [List.length_take] at hj
                exact hall j (by omega) (by omega)
              have hsl : ((L.take k).map ZbOp.text).length ≤ 100 := by
                rw [List.length_map, List.length_take]
                omega
              have hnx : zbAll ((L.take (k + 1)).map ZbOp.text) = zbAll ((L.take k).map ZbOp.text) ++ t := by
                rw [List.take_succ_eq_append_getElem hlt, List.map_append, List.map_cons, List.map_nil, zbAll_snoc, ← ht]
              obtain ⟨acc, hacc⟩ : ∃ acc, acc = zbAll ((L.take k).map ZbOp.text) := ⟨_, rfl⟩
              rw [← hacc] at hsum hnx
              rw [← hacc]
              have hasz : acc.size ≤ 500000 := by omega
              have HS := Lib.hid (And.intro hall (And.intro ht (And.intro hlt hnx)))
              clear hall ht hc hb hv hsum hsl hnx hacc
              by_cases htb : (5000 : Int) < (t.size : Int)
              · go_wp2_with fail
                go_at_call 17
                refine (Ha.out _ HB1.out).mono ?_
                rintro r w2 ⟨rfl, hb⟩
                have Hb := Lib.hid (HB1.out.trans (hb.mono HB1.out.size))
                clear hb
                go_wp2
                go_ret
                exact ⟨rfl, Hb.out⟩
              · have hts : (t.size : Int) ≤ 5000 := by omega
                clear htb
                have hcat : ¬ (9223372036854775807 < acc.size + t.size) := by omega
                have HM := Lib.hid hts
                go_wp2
                refine ⟨⟨k + 1, by rw [HS.out.2.2.2], by go_num, hlt, fun j hj hjk => ?_⟩, by simp [intOf]; omega⟩
                by_cases e : j < k
                · exact HS.out.1 j hj e
                · have e2 : j = k := by omega
                  subst e2
                  rw [← HS.out.2.1]
                  have := HM.out
                  omega
          · have hge : (L.length : Int) ≤ (k : Int) := by omega
            have h0 : ∀ o ∈ L, o.text.size ≤ 5000 := by
              intro o ho
              obtain ⟨j, hj, rfl⟩ := List.getElem_of_mem ho
              exact hall j hj (by omega)
            have hA1 := HA.out.below HB1.out
            have hkL : L.take k = L := List.take_of_length_le (by omega)
            rw [hkL]
            clear hall hlt hk hkL
            obtain ⟨i59, hi9, hz9, hs9, hb9⟩ := info_parts Tryz.info59
            have hops : ∀ ad, pv = some ad → ∀ j u, (L.flatMap opCells)[j]? = some u → (w1.alloc (.cells #[] 59)).cell? (ad.add j) = some u := by
              intro ad had j u hu
              have hjl := (List.getElem?_eq_some_iff.1 hu).1
              rw [length_ops] at hjl
              have hq : j / 3 < L.length := by omega
              rcases hA1 with ⟨hnil, -⟩ | ⟨b, off, cap, hv, hb, hc⟩
              · rw [hnil] at hq
                exact absurd hq (Nat.not_lt_zero _)
              · rw [had] at hv
                obtain ⟨rfl, -⟩ : ad = ⟨b, off, none⟩ ∧ capv = cap := by simpa using hv
                rw [zo_plus, World.cell?_alloc_lt _ _ _ hb]
                have hj : j = j / 3 * 3 + j % 3 := by omega
                have hr : j % 3 < 3 := Nat.mod_lt _ (by omega)
                rw [hj, ops_at L (j / 3) (j % 3) hq hr] at hu
                obtain ⟨c0, c1, c2⟩ := hc (j / 3) hq
                have h3 : j % 3 = 0 ∨ j % 3 = 1 ∨ j % 3 = 2 := by omega
                rcases h3 with e | e | e
                · rw [e] at hu
                  rw [show off + j = off + j / 3 * 3 by omega, c0, ← hu]
                  rfl
                · rw [e] at hu
                  rw [show off + j = off + j / 3 * 3 + 1 by omega, c1, ← hu]
                  rfl
                · rw [e] at hu
                  rw [show off + j = off + j / 3 * 3 + 2 by omega, c2, ← hu]
                  rfl
            have hnone : pv = none → L.length = 0 := by
              intro e
              rcases hA1 with ⟨hnil, -⟩ | ⟨b, off, cap, hv, hb, hc⟩
              · rw [hnil]
                rfl
              · rw [e] at hv
                simp at hv
            have HO := Lib.hid (And.intro hops h0)
            have HN := Lib.hid hnone
            have hlen := hle
            clear hops h0 hnone hA1
            go_wp2_with (at_builtin; refine append_rows _ rfl _ _ 56 rfl w1.heap.size 59 i59 (.agg #[.string ⟨#[]⟩, .bool false, .bool false]) 3 24 Tryz.underlying56 hi9 hz9 hs9 hb9 rfl (by decide) (.slice (some ⟨w1.heap.size, 0, none⟩) 0 0) 0 [] rfl ?e0 pv L.length capv (L.flatMap opCells) rfl HN.out (length_ops L) ?e1 ?e2 ?e3 ?e4 ?e5 ?_)
            case e0 => exact World.ownsRow_lit w1 #[] 0 (Nat.le_refl _) (Nat.zero_le _) rfl
            case e1 => exact HO.out.1
            case e2 =>
              intro u o _ hu
              simp [opCells] at hu
              rcases hu with rfl | rfl | rfl <;> rfl
            case e3 => unfold maxLen; omega
            case e4 => omega
            intro v2 w2 hown hgrow
            obtain ⟨p2, k2, rfl⟩ := slice_of_own hown
            have HW2 := Lib.hid (And.intro hown hgrow)
            have hsz2 := hgrow.size
            simp only [World.size_alloc] at hsz2
            have Hs2 := Lib.hid hsz2
            clear hown hgrow hsz2
            go_wp2_with (at_builtin; refine wpList_append_own _ rfl _ _ 56 rfl w1.heap.size 59 i59 (.agg #[.string ⟨#[]⟩, .bool false, .bool false]) 3 24 Tryz.underlying56 hi9 hz9 hs9 hb9 rfl (by decide) (.slice p2 L.length k2) L.length (L.flatMap opCells) rfl (HW2.out.1.alloc _) ⟨w2.heap.size, 0, none⟩ 1 1 (opCells ⟨⟨#[]⟩, true, false⟩) rfl rfl ?f1 ?f2 ?f3 ?f4 ?f5 ?_)
            case f1 => exact World.news_of_block (cs := #[.string ⟨#[]⟩, .bool true, .bool false]) (heap_alloc_new w2 _)
            case f2 =>
              intro u hu
              simp [opCells] at hu
              rcases hu with rfl | rfl | rfl <;> rfl
            case f3 => unfold maxLen; omega
            case f4 => omega
            case f5 => have := Hs2.out; simp; omega
            intro v3 w3 hown hgrow _
            obtain ⟨p3, k3, rfl⟩ := slice_of_own hown
            have hA3 : ZoArr (.slice p3 (L.length + 1) k3) (L ++ [⟨⟨#[]⟩, true, false⟩]) w3 := by
              refine zo_of_own (B := w1.heap.size) ?_
              rw [List.length_append, List.flatMap_append]
              simpa using hown
            have hb3 : Below w1.heap.size w1 w3 := by
              have g1 := HW2.out.2
              have g2 := hgrow
              have h2 := Hs2.out
              have hs3 := g2.size
              simp only [World.size_alloc] at hs3
              refine ⟨?_, ?_, ?_, by omega, fun x hx => ?_⟩
              · rw [g2.os]; show w2.os = _; rw [g1.os]; rfl
              · rw [g2.tape]; show w2.tape = _; rw [g1.tape]; rfl
              · rw [g2.output]; show w2.output = _; rw [g1.output]; rfl
              · rw [g2.block x (by simp only [World.size_alloc]; omega) (fun e => by have := (HW2.out.1.lt x e.symm).1; omega), heap_alloc_old w2 _ (by omega), g1.block x (by simp only [World.size_alloc]; omega) (fun e => by simp [Value.ownBlock] at e; omega), heap_alloc_old w1 _ hx]
            have H3 := Lib.hid (And.intro hA3 hb3)
            have hall2 : ∀ o ∈ L ++ [(⟨⟨#[]⟩, true, false⟩ : ZbOp)], o.text.size ≤ 5000 := by
              intro o ho
              rcases List.mem_append.1 ho with h | h
              · exact HO.out.2 o h
              · simp at h
                subst h
                exact Nat.zero_le _
            have Hz := Lib.hid (zBuffered_any n _ _ w3 hA3 (by rw [List.length_append, List.length_singleton]; omega) hn hall2)
            clear hown hgrow hA3 hb3 hall2
            go_wp2_with fail
            go_at_call 32
            refine Hz.out.mono ?_
            rintro r w4 ⟨v1, rfl, o1, b1⟩
            have H4 := Lib.hid (And.intro o1 (H3.out.2.trans (b1.mono H3.out.2.size)))
            obtain ⟨p4, k4, rfl⟩ := slice_of_own o1
            clear o1 b1
            have hfl := zbRun_flushed (zbSize n) L
            have hol := zbRun_len (zbSize n) (L ++ [(⟨⟨#[]⟩, true, false⟩ : ZbOp)])
            rw [List.length_append, List.length_singleton] at hol
            have hsz := zbAll_le 5000 (L.map ZbOp.text) (fun u hu => by obtain ⟨o, ho, rfl⟩ := List.mem_map.1 hu; exact HO.out.2 o ho)
            rw [List.length_map] at hsz
            obtain ⟨out, hout⟩ : ∃ out, out = (zbRun (zbSize n) (L ++ [(⟨⟨#[]⟩, true, false⟩ : ZbOp)])).out := ⟨_, rfl⟩
            rw [← hout] at hfl hol
            rw [← hout]
            rw [← hfl] at hsz
            rw [← hout] at H4
            have hsz2 : (zbAll out).size ≤ 500000 := by omega
            have hol2 : (out.length : Int) ≤ 404 := by omega
            have HG := Lib.hid (And.intro hfl hsz2)
            clear hfl hol hsz hsz2 hout Hz
            go_wp2_with fail
            go_loop [7, 9] (fun v7 v9 => ∃ j : Nat, v7 = .string (zbAll (out.take j)) ∧ v9 = .int .i64 (j : Int) ∧ j ≤ out.length) (fun _ v9 => out.length - (intOf v9).toNat)
            case atStart => exact ⟨0, rfl, rfl, Nat.zero_le _⟩
            case round =>
              obtain ⟨j, rfl, rfl, hj⟩ := hrel
              by_cases hjl : j < out.length
              · have hcl : ∃ gl, p4 = some ⟨gl, 0, none⟩ := by
                  obtain ⟨_, ⟨h1, h2⟩ | ⟨g, cap, cur, h1, _⟩⟩ := H4.out.1
                  · omega
                  · simp at h1
                    exact ⟨g, h1.1⟩
                obtain ⟨gl, rfl⟩ := hcl
                have hc := H4.out.1.cells rfl j (.string out[j]) (by rw [List.getElem?_map, List.getElem?_eq_getElem hjl]; rfl)
                rw [add_lit] at hc
                have hjI : (j : Int) < (out.length : Int) := by omega
                have hnx := zbAll_take out j hjl
                have hm1 := zbAll_mono out (j + 1)
                rw [hnx, ba_size_append] at hm1
                have hcat : ¬ (9223372036854775807 < (zbAll (out.take j)).size + (out[j]).size) := by have := HG.out.2; omega
                have HS := Lib.hid (And.intro hnx hjl)
                clear hnx hm1
                go_wp2
                exact ⟨⟨j + 1, by rw [HS.out.1], by go_num, HS.out.2⟩, by have := HS.out.2; simp [intOf]; omega⟩
              · have hge2 : (out.length : Int) ≤ (j : Int) := by omega
                have hjo : out.take j = out := List.take_of_length_le (by omega)
                rw [hjo, HG.out.1]
                have Ho := Lib.hid (fun W => zBuffered_any 8 _ oneOp _ (one_arr W) (by decide) (by decide) (by decide))
                have ho1 : (zbRun (zbSize 8) oneOp).out.length = 1 := zbRun_one _ aS rfl rfl
                obtain ⟨T, hT⟩ : ∃ T, T = zbAll (L.map ZbOp.text) := ⟨_, rfl⟩
                rw [← hT]
                have hTT : (T.toList == T.toList) = true := beq_self_eq_true _
                clear hjo hj hjl hT
                unfold aS at Ho
                go_wp2_with fail
                go_at_call 32
                refine (Ho.out _).mono ?_
                rintro r w5 ⟨v5, rfl, o5, b5⟩
                rw [ho1] at o5
                obtain ⟨p5, k5, rfl⟩ := slice_of_own o5
                have H5 := Lib.hid (HB1.out.trans ((H4.out.2.trans (((Below.refl _ w4).alloc (Nat.le_refl _) _).trans (b5.mono (by simp)) |>.mono H4.out.2.size)).mono HB1.out.size))
                clear o5 b5
                go_wp2
                go_ret
                exact ⟨rfl, H5.out⟩
end Go.Proofs.YtchmhdmapknmfaaGreatDoor
