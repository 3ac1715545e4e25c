/-
  FnZNamed: for every list of texts the law answers true, the list reads afterwards as before: the row, lifted from the walks. Conditions: the listed package-level variables hold what the program's text lays in them (tied).
-/
import Derived.Test.YtchmhdmapknmfaaGreatDoorNc
import Derived.Test.YtchmhdmapknmfaaGreatDoorLa
import Derived.SevenTiedAt
namespace Go.Proofs.YtchmhdmapknmfaaGreatDoor
open Go.RowKit Go.ChangeShapes Go.WideShapes Go.ChangeAt

set_option maxRecDepth 100000 in
theorem named_lifted (os : Os) (started : os.Started) (H : Type) (enc : TypeId × Value → H) :
    ReturnsInHanded {} Tryz.checked os 9 .any (fun w args => (Rows.fnZNamedSpec.pre enc Tryz.prog Tryz.f9 [] false w args ∧ laidMetH Tryz.prog Rows.fnZNamedRow.laid w) ∧ sizedMet enc Tryz.prog Tryz.f9 (OpenSpec.ofChange Rows.fnZNamedSpec) false w args)
      (Rows.fnZNamedSpec.post enc Tryz.prog Tryz.f9 false true false false) := by
  refine returnsInHanded_of_change_and (C := Tryz.checked) (X := fun w _ => laidMetH Tryz.prog Rows.fnZNamedRow.laid w) (fun _ _ _ hh h => h.of_heap hh) Tryz.own started (by kernel_rfl) Tryz.func9
    (ChangeSpec.witness_shaped (enc := enc) (C := Tryz.checked) (os := os) (X := fun w _ => laidMetH Tryz.prog Rows.fnZNamedRow.laid w) false (World.laidAll Tryz.prog os Rows.fnZNamedRow.laid) #[.slice none 0 0] 8 (World.laidAll_os _ _ _)
      (World.shaped_of_ZipB (by kernel_rfl) (by kernel_rfl)) (by kernel_rfl) (by kernel_rfl) (by kernel_rfl)
      (by rw [MakeChecks.laidMetH_plain _ _ _ (by kernel_rfl)]; exact laidMet_laidAll _ (by kernel_rfl) (by kernel_rfl))) ?_
  intro W base args ds gs before hval0 hW _ _ hL _
  have hval : ∀ (j : Nat) t v, Tryz.f9.params[j]? = some t → args[j]? = some v → Value.okWide Tryz.prog W .any base t v := hval0
  have hW' := hW
  obtain ⟨p, q, hA0, hV, rfl, _, _⟩ := hW
  have hA : DataW.TrodAll enc Tryz.prog W 0 (fun _ => true) true Tryz.f9.params.toList args.toList ds p := hA0
  rw [Tryz.params9] at hA hval
  obtain ⟨v0, d0, rfl, rfl, h0⟩ := trodAll_one hA
  obtain ⟨a0, len, cap, rfl⟩ := okWide_slice Tryz.underlying22 (hval 0 22 v0 rfl rfl)
  have h0k := h0
  obtain ⟨fuel, hf⟩ := h0
  obtain ⟨g1, g2, g3, rfl⟩ := vars3 hV
  rw [MakeChecks.laidMetH_plain _ _ _ (by kernel_rfl)] at hL
  have hp : Pow W := pow_of_reads (pow10_data ▸ Lib.laidMet.reads hL (by simp [Rows.fnZNamedRow]))
  have hH : 11 ≤ W.heap.size := heap11 (d := Rows.laid_math_bits_deBruijn64tab) (Lib.laidMet.reads hL (by simp [Rows.fnZNamedRow]))
  have hlt : ∀ x ∈ p, x.block < W.heap.size := fun x hx => by simpa using hW'.lt x (List.mem_append_left _ hx)
  have key : Calls Tryz.prog 9 #[.slice a0 len cap] W fun r w' => r = .returned (.bool true) ∧ Below W.heap.size W w' := by
    rcases open_strings Tryz.underlying22 Tryz.underlying9 (by kernel_rfl) hf with ⟨hcs, hx⟩ | ⟨a, len', cap', ss, hcs, _, hl, hm, hz, hx, hcell, hws⟩
    · simp [Value.cells] at hcs
      obtain ⟨rfl, rfl, rfl⟩ := hcs
      exact named_nil _ _ W
    · simp [Value.cells] at hcs
      obtain ⟨rfl, rfl, rfl⟩ := hcs
      by_cases hl0 : len = 0
      · subst hl0
        exact named_nil _ _ W
      · simp only [if_true] at hz
        obtain ⟨b, off, spot⟩ := a
        have hspot : spot = none := by simpa [Addr.add] using World.cell?_spot (hcell 0 (by omega))
        subst hspot
        have hpx := congrArg Prod.snd hx
        have hbW : b < W.heap.size := hlt (.cell b off) (by rw [show p = _ from hpx]; exact MemPlace.mem_row.2 ⟨0, by omega, by simp⟩)
        have e : (ss.take len).length = len := by rw [List.length_take]; omega
        have hg : ∀ j (h : j < (ss.take len).length), (ss.take len)[j] = ss.getD j ByteArray.empty := fun j h => by
          rw [List.getElem_take, List.getD, List.getElem?_eq_getElem (by omega : j < ss.length)]; rfl
        have hmax : maxLen ≤ 9223372036854775807 := by decide
        have := named_law b off cap (ss.take len) W (fun j h => by rw [hg j h, ← add_plain]; exact hcell j (by omega)) (by rw [e]; omega)
          (fun j h => Nat.le_trans (hws _ (List.mem_of_mem_take (List.getElem_mem h))) hmax) hbW hp hH
        rw [e] at this
        exact this
  refine key.mono fun e W' ⟨he, hb⟩ => ?_
  subst he
  exact ⟨_, rfl, _, _, _, [], p, q, hW', trodAll_mk1 (shut_bool Tryz.underlying4 _), trodAll_mk1 (Below.trod Tryz.laidOut (by kernel_rfl) (of_decide_eq_true (by kernel_rfl)) h0k hb hlt), hb.trodVars Tryz.laidOut (by kernel_rfl) hV, hb.frame _, fun h => by cases h⟩

end Go.Proofs.YtchmhdmapknmfaaGreatDoor
