/-
  FnZMulti: for every list of writers and every text the law answers true, what it reads stays as it was: the row, lifted from the walks. Conditions: the listed package-level variables hold what the program's text lays in them (tied).
-/
import Derived.Test.YtchmhdmapknmfaaGreatDoorVf
import Derived.Test.YtchmhdmapknmfaaGreatDoorLa
import Derived.SevenTiedAt
import Derived.Deep.SlicePairs
namespace Go.Proofs.YtchmhdmapknmfaaGreatDoor
open Go.RowKit Go.ChangeShapes Go.WideShapes Go.ChangeAt
open Go.ChangeMaps (open_string shut_string)

theorem multi_law (p : Option Addr) (n cap : Nat) (t : ByteArray) (w : World) (hp : Pow w) (hH : 11 ≤ w.heap.size) (h : n ≤ 20 → ∃ L, L.length = n ∧ TkArr (.slice p n cap) L w) :
    Calls Tryz.prog 10 #[.slice p n cap, .string t] w fun r w' => r = .returned (.bool true) ∧ Below w.heap.size w w' := by
  by_cases h1 : n ≤ 2147483647
  · by_cases h2 : t.size ≤ 2147483647
    · by_cases h3 : n ≤ 20
      · by_cases h4 : t.size ≤ 2000
        · obtain ⟨L, hL, hA⟩ := h h3
          exact multi_main _ L t w hp hH hA (by omega) h4
        · exact multi_awake2 p n cap t w hp hH h3 h2 (by omega)
      · exact multi_awake1 p n cap t w hp hH h1 h2 (by omega)
    · exact multi_big2 p n cap t w h1 (by omega)
  · exact multi_big1 p n cap t w (by omega)

theorem add_off (b o j : Nat) : (⟨b, o, none⟩ : Addr).add j = ⟨b, o + j, none⟩ := by unfold Addr.add; split <;> simp_all

def boolOf : Value → Bool
  | .bool b => b
  | _ => false

set_option maxRecDepth 100000 in
theorem multi_lifted (os : Os) (started : os.Started) (H : Type) (enc : TypeId × Value → H) :
    ReturnsInHanded {} Tryz.checked os 10 .any (fun w args => (Rows.fnZMultiSpec.pre enc Tryz.prog Tryz.f10 [] false w args ∧ laidMetH Tryz.prog Rows.fnZMultiRow.laid w) ∧ sizedMet enc Tryz.prog Tryz.f10 (OpenSpec.ofChange Rows.fnZMultiSpec) false w args)
      (Rows.fnZMultiSpec.post enc Tryz.prog Tryz.f10 false true false false) := by
  refine returnsInHanded_of_change_and (C := Tryz.checked) (X := fun w _ => laidMetH Tryz.prog Rows.fnZMultiRow.laid w) (fun _ _ _ hh h => h.of_heap hh) Tryz.own started (by kernel_rfl) Tryz.func10
    (ChangeSpec.witness_shaped (enc := enc) (C := Tryz.checked) (os := os) (X := fun w _ => laidMetH Tryz.prog Rows.fnZMultiRow.laid w) false (World.laidAll Tryz.prog os Rows.fnZMultiRow.laid) #[.slice none 0 0, .string ⟨#[]⟩] 8 (World.laidAll_os _ _ _)
      (World.shaped_of_ZipB (by kernel_rfl) (by kernel_rfl)) (by kernel_rfl) (by kernel_rfl) (by kernel_rfl)
      (by rw [MakeChecks.laidMetH_plain _ _ _ (by kernel_rfl)]; exact laidMet_laidAll _ (by kernel_rfl) (by kernel_rfl))) ?_
  intro W base args ds gs before hval0 hW _ _ hL _
  have hval : ∀ (j : Nat) t v, Tryz.f10.params[j]? = some t → args[j]? = some v → Value.okWide Tryz.prog W .any base t v := hval0
  have hW' := hW
  obtain ⟨p, q, hA0, hV, rfl, _, _⟩ := hW
  have hA : DataW.TrodAll enc Tryz.prog W 0 (fun _ => true) true Tryz.f10.params.toList args.toList ds p := hA0
  rw [Tryz.params10] at hA hval
  obtain ⟨v0, v1, d0, d1, p0, p1, rfl, rfl, hps, h0, h1⟩ := trodAll_two hA
  obtain ⟨a0, len, cap, rfl⟩ := okWide_slice Tryz.underlying48 (hval 0 48 v0 rfl rfl)
  obtain ⟨t, rfl, rfl, rfl, wt⟩ := open_string Tryz.underlying9 (hval 1 9 v1 rfl rfl) h1
  have hps' : p = p0 ++ [] := hps
  rw [List.append_nil] at hps'
  subst hps'
  have h0k := h0
  obtain ⟨fuel, hf⟩ := h0
  obtain ⟨g1, g2, g3, rfl⟩ := vars3 hV
  rw [MakeChecks.laidMetH_plain _ _ _ (by kernel_rfl)] at hL
  have hp : Pow W := pow_of_reads (pow10_data ▸ Lib.laidMet.reads hL (by simp [Rows.fnZMultiRow]))
  have hH : 11 ≤ W.heap.size := heap11 (d := Rows.laid_math_bits_deBruijn64tab) (Lib.laidMet.reads hL (by simp [Rows.fnZMultiRow]))
  have hlt : ∀ x ∈ p, x.block < W.heap.size := fun x hx => by simpa using hW'.lt x (List.mem_append_left _ hx)
  have key : Calls Tryz.prog 10 #[.slice a0 len cap, .string t] W fun r w' => r = .returned (.bool true) ∧ Below W.heap.size W w' := by
    refine multi_law a0 len cap t W hp hH fun _ => ?_
    rcases Go.Deep.open_slice_pairs Tryz.underlying48 Tryz.underlying50 (by kernel_rfl) rfl rfl (by kernel_rfl) (by kernel_rfl) hf with ⟨hcs, hx⟩ | ⟨a, len', cap', m, n, V0, V1, D0, D1, P0, P1, hcs, _, hl, hm, hmm, hx, hall⟩
    · simp [Value.cells] at hcs
      obtain ⟨rfl, rfl, rfl⟩ := hcs
      exact ⟨[], rfl, .inl ⟨rfl, none, 0, rfl⟩⟩
    · simp [Value.cells] at hcs
      obtain ⟨rfl, rfl, rfl⟩ := hcs
      by_cases hl0 : len = 0
      · subst hl0
        exact ⟨[], rfl, .inl ⟨rfl, _, cap, rfl⟩⟩
      · simp only [if_true] at hmm
        obtain ⟨b, off, spot⟩ := a
        have hspot : spot = none := by simpa [Addr.add] using World.cell?_spot (hall 0 (by omega)).1
        subst hspot
        have hpx := congrArg Prod.snd hx
        have hbW : b < W.heap.size := hlt (.cell b off) (by rw [show p = _ from hpx]; exact List.mem_append_left _ (MemPlace.mem_row.2 ⟨0, by omega, by simp⟩))
        refine ⟨(List.range len).map fun i => (intOf (V0 i), boolOf (V1 i)), by simp, .inr ⟨b, off, cap, by simp, hbW, fun i hi => ?_⟩⟩
        have hi' : i < len := by simpa using hi
        obtain ⟨e0, e1, t0, t1⟩ := hall i (by omega)
        obtain ⟨x, hx0, -, -⟩ := DataW.trod_int Tryz.underlying3 t0
        obtain ⟨y, hy0, -⟩ := DataW.trod_bool Tryz.underlying4 t1
        have ex : V0 i = .int .i64 x := by simpa using hx0
        have ey : V1 i = .bool y := by simpa using hy0
        rw [add_off] at e0 e1
        simp only [List.getElem_map, List.getElem_range]
        rw [← Nat.add_assoc] at e1
        rw [e0, e1, ex, ey]
        exact ⟨rfl, rfl⟩
  refine key.mono fun e W' ⟨he, hb⟩ => ?_
  subst he
  exact ⟨_, rfl, _, _, _, [], _, q, hW', trodAll_mk1 (shut_bool Tryz.underlying4 _), trodAll_mk2 (Below.trod Tryz.laidOut (by kernel_rfl) (of_decide_eq_true (by kernel_rfl)) h0k hb hlt) (shut_string Tryz.underlying9 wt), hb.trodVars Tryz.laidOut (by kernel_rfl) hV, hb.frame _, fun h => by cases h⟩
end Go.Proofs.YtchmhdmapknmfaaGreatDoor
