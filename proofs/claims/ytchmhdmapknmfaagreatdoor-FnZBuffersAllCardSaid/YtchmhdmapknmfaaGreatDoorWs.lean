/-
  FnZBuffersAll: for every size and all operations the law answers true, what it reads stays as it was: the row, lifted from the walks. Conditions: the listed package-level variables hold what the program's text lays in them (tied).
-/
import Derived.Test.YtchmhdmapknmfaaGreatDoorWr
import Derived.Test.YtchmhdmapknmfaaGreatDoorWn
namespace Go.Proofs.YtchmhdmapknmfaaGreatDoor
open Go.RowKit Go.ChangeShapes Go.WideShapes Go.ChangeAt
open Go.ChangeMaps (open_string shut_string)

theorem all_law (n : Int) (p : Option Addr) (k cap : Nat) (w : World) (hp : Pow w) (hH : 11 ≤ w.heap.size) (h : ∃ L, L.length = k ∧ ZoArr (.slice p k cap) L w) :
    Calls Tryz.prog 12 #[.int .i64 n, .slice p k cap] w fun r w' => r = .returned (.bool true) ∧ Below w.heap.size w w' := by
  by_cases h1 : k ≤ 2147483647
  · obtain ⟨L, hL, hA⟩ := h
    exact all_main n _ L w hp hH hA (by omega)
  · exact all_big n p k cap w (by omega)

set_option maxRecDepth 100000 in
theorem all_lifted (os : Os) (started : os.Started) (H : Type) (enc : TypeId × Value → H) :
    ReturnsInHanded {} Tryz.checked os 12 .any (fun w args => (Rows.fnZBuffersAllSpec.pre enc Tryz.prog Tryz.f12 [] false w args ∧ laidMetH Tryz.prog Rows.fnZBuffersAllRow.laid w) ∧ sizedMet enc Tryz.prog Tryz.f12 (OpenSpec.ofChange Rows.fnZBuffersAllSpec) false w args)
      (Rows.fnZBuffersAllSpec.post enc Tryz.prog Tryz.f12 false true false false) := by
  refine returnsInHanded_of_change_and (C := Tryz.checked) (X := fun w _ => laidMetH Tryz.prog Rows.fnZBuffersAllRow.laid w) (fun _ _ _ hh h => h.of_heap hh) Tryz.own started (by kernel_rfl) Tryz.func12
    (ChangeSpec.witness_shaped (enc := enc) (C := Tryz.checked) (os := os) (X := fun w _ => laidMetH Tryz.prog Rows.fnZBuffersAllRow.laid w) false (World.laidAll Tryz.prog os Rows.fnZBuffersAllRow.laid) #[.int .i64 0, .slice none 0 0] 8 (World.laidAll_os _ _ _)
      (World.shaped_of_ZipB (by kernel_rfl) (by kernel_rfl)) (by kernel_rfl) (by kernel_rfl) (by kernel_rfl)
      (by rw [MakeChecks.laidMetH_plain _ _ _ (by kernel_rfl)]; exact laidMet_laidAll _ (by kernel_rfl) (by kernel_rfl))) ?_
  intro W base args ds gs before hval0 hW _ _ hL _
  have hval : ∀ (j : Nat) t v, Tryz.f12.params[j]? = some t → args[j]? = some v → Value.okWide Tryz.prog W .any base t v := hval0
  have hW' := hW
  obtain ⟨p, q, hA0, hV, rfl, _, _⟩ := hW
  have hA : DataW.TrodAll enc Tryz.prog W 0 (fun _ => true) true Tryz.f12.params.toList args.toList ds p := hA0
  rw [Tryz.params12] at hA hval
  obtain ⟨v0, v1, d0, d1, p0, p1, rfl, rfl, hps, h0, h1⟩ := trodAll_two hA
  obtain ⟨d, rfl, rfl, rfl, wd⟩ := open_int Tryz.underlying3 (hval 0 3 v0 rfl rfl) h0
  obtain ⟨a0, len, cap, rfl⟩ := okWide_slice Tryz.underlying56 (hval 1 56 v1 rfl rfl)
  have hps' : p = [] ++ p1 := hps
  rw [List.nil_append] at hps'
  subst hps'
  have h1k := h1
  obtain ⟨fuel, hf⟩ := h1
  obtain ⟨g1, g2, g3, rfl⟩ := vars3 hV
  rw [MakeChecks.laidMetH_plain _ _ _ (by kernel_rfl)] at hL
  have hp : Pow W := pow_of_reads (pow10_data ▸ Lib.laidMet.reads hL (by simp [Rows.fnZBuffersAllRow]))
  have hH : 11 ≤ W.heap.size := heap11 (d := Rows.laid_math_bits_deBruijn64tab) (Lib.laidMet.reads hL (by simp [Rows.fnZBuffersAllRow]))
  have hlt : ∀ x ∈ p, x.block < W.heap.size := fun x hx => by simpa using hW'.lt x (List.mem_append_left _ hx)
  have key := all_law d a0 len cap W hp hH (zo_open hf hlt)
  refine key.mono fun e W' ⟨he, hb⟩ => ?_
  subst he
  exact ⟨_, rfl, _, _, _, [], _, q, hW', trodAll_mk1 (shut_bool Tryz.underlying4 _), trodAll_mk2 (shut_int Tryz.underlying3 wd) (Below.trod Tryz.laidOut (by kernel_rfl) (of_decide_eq_true (by kernel_rfl)) h1k hb hlt), hb.trodVars Tryz.laidOut (by kernel_rfl) hV, hb.frame _, fun h => by cases h⟩
end Go.Proofs.YtchmhdmapknmfaaGreatDoor
