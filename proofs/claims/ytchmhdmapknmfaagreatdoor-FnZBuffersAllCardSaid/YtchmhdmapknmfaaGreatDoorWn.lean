/-
  FnZBuffers: for every size and all operations the law answers true, what it reads stays as it was: the row, lifted from the walks. Conditions: the listed package-level variables hold what the program's text lays in them (tied).
-/
import Derived.Test.YtchmhdmapknmfaaGreatDoorWm
import Derived.Test.YtchmhdmapknmfaaGreatDoorLa
import Derived.SevenTiedAt
import Derived.Deep.SlicePairs
namespace Go.Proofs.YtchmhdmapknmfaaGreatDoor
open Go.RowKit Go.ChangeShapes Go.WideShapes Go.ChangeAt
open Go.ChangeMaps (open_string shut_string)

theorem buffers_law (n : Int) (p : Option Addr) (k cap : Nat) (w : World) (hp : Pow w) (hH : 11 ≤ w.heap.size) (h : ∃ L, L.length = k ∧ ZoArr (.slice p k cap) L w) :
    Calls Tryz.prog 11 #[.int .i64 n, .slice p k cap] w fun r w' => r = .returned (.bool true) ∧ Below w.heap.size w w' := by
  by_cases h1 : k ≤ 2147483647
  · obtain ⟨L, hL, hA⟩ := h
    exact buffers_main n _ L w hp hH hA (by omega)
  · exact buffers_big n p k cap w (by omega)

theorem zo_add (b o j : Nat) : (⟨b, o, none⟩ : Addr).add j = ⟨b, o + j, none⟩ := by unfold Addr.add; split <;> simp_all

instance : Inhabited ZbOp := ⟨⟨⟨#[]⟩, false, false⟩⟩

set_option maxRecDepth 100000 in
/-- A slice of operations, opened. -/
theorem zo_open {H : Type} {enc : TypeId × Value → H} {W : World} {fuel : Nat} {a0 : Option Addr} {len cap : Nat} {x : DataW H × List MemPlace}
    (hf : DataW.trod enc Tryz.prog W 0 (fun _ => true) true fuel 56 [.slice a0 len cap] = some x) (hlt : ∀ q ∈ x.2, q.block < W.heap.size) : ∃ L, L.length = len ∧ ZoArr (.slice a0 len cap) L W := by
  rcases Go.Deep.open_slice Tryz.underlying56 hf with ⟨hcs, hx⟩ | ⟨a, len', cap', m, n, D, Pl, hcs, _, hl, hm, hmm, hx, hall⟩
  · simp at hcs
    obtain ⟨rfl, rfl, rfl⟩ := hcs
    exact ⟨[], rfl, .inl ⟨rfl, none, 0, rfl⟩⟩
  · simp at hcs
    obtain ⟨rfl, rfl, rfl⟩ := hcs
    by_cases hl0 : len = 0
    · subst hl0
      exact ⟨[], rfl, .inl ⟨rfl, _, cap, rfl⟩⟩
    · simp only [if_true] at hmm
      have ce : Tryz.prog.cellsOf 59 = 3 := by kernel_rfl
      have each : ∀ i, i < len → ∃ o : ZbOp, W.cell? (a.add (i * 3)) = some (.string o.text) ∧ W.cell? (a.add (i * 3 + 1)) = some (.bool o.sync) ∧ W.cell? (a.add (i * 3 + 2)) = some (.bool o.stop) := by
        intro i hi
        obtain ⟨cs', h1, h2⟩ := hall i (by omega)
        rw [ce] at h1
        obtain ⟨_, hlen, hcell⟩ := World.cells?_some h1
        obtain ⟨xs, k, hk, hxy, _, hxl, hfl⟩ := DataW.trod_struct Tryz.underlying59 h2
        match xs, hxl, cs', hlen with
        | [y0, y1, y2], _, [v0, v1, v2], _ =>
          have g0 := hfl 0 _ rfl
          have g1 := hfl 1 _ rfl
          have g2 := hfl 2 _ rfl
          have c9 : Tryz.prog.cellsOf 9 = 1 := by kernel_rfl
          have c4 : Tryz.prog.cellsOf 4 = 1 := by kernel_rfl
          simp [c9, c4] at g0 g1 g2
          obtain ⟨t, e0, -⟩ := DataW.trod_string Tryz.underlying9 g0
          obtain ⟨x1, e1, -⟩ := DataW.trod_bool Tryz.underlying4 g1
          obtain ⟨x2, e2, -⟩ := DataW.trod_bool Tryz.underlying4 g2
          have k0 := hcell 0 (by omega)
          have k1 := hcell 1 (by omega)
          have k2 := hcell 2 (by omega)
          rw [Go.Deep.add_add] at k0 k1 k2
          refine ⟨⟨t, x1, x2⟩, ?_, ?_, ?_⟩
          · simpa using k0.trans (by simpa using congrArg List.head? e0)
          · simpa using k1.trans (by simpa using congrArg List.head? e1)
          · simpa using k2.trans (by simpa using congrArg List.head? e2)
      obtain ⟨f, hf2⟩ := Go.Deep.choose_lt each
      obtain ⟨b, off, spot⟩ := a
      have hspot : spot = none := by simpa [Addr.add] using World.cell?_spot (hf2 0 (by omega)).1
      subst hspot
      have hpx := congrArg Prod.snd hx
      have hbW : b < W.heap.size := hlt (.cell b off) (by rw [hpx]; exact List.mem_append_left _ (MemPlace.mem_row.2 ⟨0, by rw [ce]; omega, by simp⟩))
      refine ⟨(List.range len).map f, by simp, .inr ⟨b, off, cap, by simp, hbW, fun i hi => ?_⟩⟩
      have hi' : i < len := by simpa using hi
      obtain ⟨q0, q1, q2⟩ := hf2 i hi'
      rw [zo_add] at q0 q1 q2
      simp only [List.getElem_map, List.getElem_range]
      rw [← Nat.add_assoc] at q1 q2
      exact ⟨q0, q1, q2⟩

set_option maxRecDepth 100000 in
theorem buffers_lifted (os : Os) (started : os.Started) (H : Type) (enc : TypeId × Value → H) :
    ReturnsInHanded {} Tryz.checked os 11 .any (fun w args => (Rows.fnZBuffersSpec.pre enc Tryz.prog Tryz.f11 [] false w args ∧ laidMetH Tryz.prog Rows.fnZBuffersRow.laid w) ∧ sizedMet enc Tryz.prog Tryz.f11 (OpenSpec.ofChange Rows.fnZBuffersSpec) false w args)
      (Rows.fnZBuffersSpec.post enc Tryz.prog Tryz.f11 false true false false) := by
  refine returnsInHanded_of_change_and (C := Tryz.checked) (X := fun w _ => laidMetH Tryz.prog Rows.fnZBuffersRow.laid w) (fun _ _ _ hh h => h.of_heap hh) Tryz.own started (by kernel_rfl) Tryz.func11
    (ChangeSpec.witness_shaped (enc := enc) (C := Tryz.checked) (os := os) (X := fun w _ => laidMetH Tryz.prog Rows.fnZBuffersRow.laid w) false (World.laidAll Tryz.prog os Rows.fnZBuffersRow.laid) #[.int .i64 0, .slice none 0 0] 8 (World.laidAll_os _ _ _)
      (World.shaped_of_ZipB (by kernel_rfl) (by kernel_rfl)) (by kernel_rfl) (by kernel_rfl) (by kernel_rfl)
      (by rw [MakeChecks.laidMetH_plain _ _ _ (by kernel_rfl)]; exact laidMet_laidAll _ (by kernel_rfl) (by kernel_rfl))) ?_
  intro W base args ds gs before hval0 hW _ _ hL _
  have hval : ∀ (j : Nat) t v, Tryz.f11.params[j]? = some t → args[j]? = some v → Value.okWide Tryz.prog W .any base t v := hval0
  have hW' := hW
  obtain ⟨p, q, hA0, hV, rfl, _, _⟩ := hW
  have hA : DataW.TrodAll enc Tryz.prog W 0 (fun _ => true) true Tryz.f11.params.toList args.toList ds p := hA0
  rw [Tryz.params11] at hA hval
  obtain ⟨v0, v1, d0, d1, p0, p1, rfl, rfl, hps, h0, h1⟩ := trodAll_two hA
  obtain ⟨d, rfl, rfl, rfl, wd⟩ := open_int Tryz.underlying3 (hval 0 3 v0 rfl rfl) h0
  obtain ⟨a0, len, cap, rfl⟩ := okWide_slice Tryz.underlying56 (hval 1 56 v1 rfl rfl)
  have hps' : p = [] ++ p1 := hps
  rw [List.nil_append] at hps'
  subst hps'
  have h1k := h1
  obtain ⟨fuel, hf⟩ := h1
  obtain ⟨g1, g2, g3, rfl⟩ := vars3 hV
  rw [MakeChecks.laidMetH_plain _ _ _ (by kernel_rfl)] at hL
  have hp : Pow W := pow_of_reads (pow10_data ▸ Lib.laidMet.reads hL (by simp [Rows.fnZBuffersRow]))
  have hH : 11 ≤ W.heap.size := heap11 (d := Rows.laid_math_bits_deBruijn64tab) (Lib.laidMet.reads hL (by simp [Rows.fnZBuffersRow]))
  have hlt : ∀ x ∈ p, x.block < W.heap.size := fun x hx => by simpa using hW'.lt x (List.mem_append_left _ hx)
  have key := buffers_law d a0 len cap W hp hH (zo_open hf hlt)
  refine key.mono fun e W' ⟨he, hb⟩ => ?_
  subst he
  exact ⟨_, rfl, _, _, _, [], _, q, hW', trodAll_mk1 (shut_bool Tryz.underlying4 _), trodAll_mk2 (shut_int Tryz.underlying3 wd) (Below.trod Tryz.laidOut (by kernel_rfl) (of_decide_eq_true (by kernel_rfl)) h1k hb hlt), hb.trodVars Tryz.laidOut (by kernel_rfl) hV, hb.frame _, fun h => by cases h⟩
end Go.Proofs.YtchmhdmapknmfaaGreatDoor
