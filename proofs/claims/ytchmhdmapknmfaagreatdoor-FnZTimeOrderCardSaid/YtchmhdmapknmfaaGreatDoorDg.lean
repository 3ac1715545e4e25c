/-
  (ztime.Duration).String: the array, the call of format, the string of what it laid.
-/
import Derived.Test.YtchmhdmapknmfaaGreatDoorDf
namespace Go.Proofs.YtchmhdmapknmfaaGreatDoor
open Go.RowKit

theorem dl_pos (v : Nat) (out : List UInt8) (h : 0 < out.length) : 0 < (dl v out).length := by
  induction v using Nat.strongRecOn generalizing out with
  | _ v ih =>
    unfold dl
    split
    · exact h
    · exact ih (v / 10) (by omega) _ (by simp)

theorem dn_pos (v : Nat) (out : List UInt8) : 0 < (dn v out).length := by
  unfold dn
  split
  · simp
  · rename_i h
    rw [dl_step (by omega)]
    exact dl_pos _ _ (by simp)

theorem du_pos (u : Nat) : 0 < (du u).length := by
  unfold du
  repeat' split
  all_goals first | exact dn_pos _ _ | simp

theorem dt_pos (d : Int) : 0 < (dt d).length := by
  unfold dt
  split
  · simp
  · exact du_pos _

theorem slice224_l (g k : Nat) (hk : k < 32) (w : World) : (Instr.sliceAt 224 (.pointer (some ⟨g, 0, none⟩)) (some (.int .i64 k)) none none).run Tryz.prog w = .ok (.slice (some ⟨g, k, none⟩) (32 - k) (32 - k)) w := by
  have hl : Tryz.prog.arrayLen 224 = 32 := by kernel_rfl
  have hz : (sizeOf (Tryz.prog.elem 224)).run Tryz.prog w = .ok 1 w := by kernel_rfl
  rw [run_sliceAt_array_l w 224 _ (by kernel_rfl) .i64 (k : Int) (by omega) (by rw [hl]; omega), hl, hz]
  show Result.ok (slicedAt _ (k : Int).toNat 32 32 1) w = _
  have h1 : ¬ 32 = (k : Int).toNat := by omega
  unfold slicedAt
  rw [if_neg h1]
  have h2 : (⟨g, 0, none⟩ : Addr).add ((k : Int).toNat * 1) = ⟨g, k, none⟩ := by unfold Addr.add; split <;> simp_all
  rw [h2]
  simp

theorem string_tl {g k : Nat} {T : List UInt8} {w : World} (h : Tl g T w) (hk : k + T.length = 32) : (convert 101 9 (.slice (some ⟨g, k, none⟩) (32 - k) (32 - k))).run Tryz.prog w = .ok (.string ⟨T.toArray⟩) w := by
  rw [run_convert_bytes_string w 101 9 5 (some ⟨g, k, none⟩) (32 - k) (32 - k) Tryz.underlying101 Tryz.underlying5 Tryz.underlying9]
  obtain ⟨L, hL, h32, -, hd⟩ := h
  have e32 : 32 - T.length = k := by omega
  rw [e32] at hd
  have hc : ∀ j v, (bRow T)[j]? = some v → w.cell? ((⟨g, k, none⟩ : Addr).add j) = some v := by
    intro j v hv
    have ha : (⟨g, k, none⟩ : Addr).add j = ⟨g, k + j, none⟩ := by unfold Addr.add; split <;> simp_all
    rw [ha]
    simp only [World.cell?, hL]
    rw [← hd] at hv
    simp [bRow] at hv ⊢
    exact hv
  have hload := run_loadCells_list (P := Tryz.prog) (w := w) ⟨g, k, none⟩ (bRow T) hc
  have e : bRow T = (T.map fun x => (x.toNat : Int)).map (Value.int .u8) := by simp [bRow]
  rw [bRow_length, show T.length = 32 - k by omega, e] at hload
  rw [run_bytesToString w ⟨g, k, none⟩ (32 - k) (32 - k) (T.map fun x => (x.toNat : Int)) (by simpa using hload), foldl_push]
  simp [ByteArray.empty, ByteArray.emptyWithCapacity]
  rfl

theorem tl_new (w : World) : Tl w.heap.size [] (w.alloc (.cells (Array.replicate 32 (.int .u8 0)) 224 (0, 0))) :=
  ⟨List.replicate 32 0, by show (w.heap.push _)[w.heap.size]? = _; rw [Array.getElem?_push, if_pos rfl]; rfl, by simp, by simp, by simp⟩

set_option maxRecDepth 100000 in
set_option maxHeartbeats 400000 in
theorem durString_any (d : Int) (w : World) (h1 : -9223372036854775808 ≤ d) (h2 : d ≤ 9223372036854775807) :
    Calls Tryz.prog 127 #[.int .i64 d] w fun r w' => r = .returned (.string ⟨(dt d).toArray⟩) ∧ Below w.heap.size w w' := by
  have HF := Lib.hid (format_any d w.heap.size w.heap.size w _ (Nat.le_refl _) ((Below.refl _ w).alloc (Nat.le_refl _) _) (tl_new w) h1 h2)
  clear h1 h2
  go_enter Tryz.func127, Tryz.ntmps127
  go_wp2_with fail
  refine HF.out.mono ?_
  rintro r w2 ⟨k, rfl, hk, hT, hb⟩
  have hlt : k < 32 := by have := dt_pos d; omega
  have hsl := slice224_l w.heap.size k hlt
  have hst := string_tl hT hk
  have Hb := Lib.hid hb
  clear hT hb
  go_wp2
  go_ret
  exact ⟨rfl, Hb.out⟩
end Go.Proofs.YtchmhdmapknmfaaGreatDoor
