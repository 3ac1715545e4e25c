/-
  The writers of a multi writer: what each of them does with bytes; errors that are joined.
-/
import Derived.Test.YtchmhdmapknmfaaGreatDoorBb
import Derived.Test.YtchmhdmapknmfaaGreatDoorDa
import Derived.StillTailTactics
import Derived.Deep.QuietTactic
import Derived.BigQuiet
namespace Go.Proofs.YtchmhdmapknmfaaGreatDoor
open Go.RowKit

/-- Bytes in block g. -/
def PBy (g : Nat) (t : ByteArray) (w : World) : Prop := g < w.heap.size ∧ ∀ j (hj : j < t.data.toList.length), w.cell? ((⟨g, 0, none⟩ : Addr).add j) = some (.int .u8 (t.data.toList[j].toNat : Int))

theorem PBy.str {g : Nat} {t : ByteArray} {w : World} (h : PBy g t w) (cap : Nat) : (convert 101 9 (.slice (some ⟨g, 0, none⟩) t.size cap)).run Tryz.prog w = .ok (.string t) w := by
  have e : t.data.toList.length = t.size := by show _ = t.data.size; simp
  have := run_convert_bytes_back (P := Tryz.prog) w 101 9 5 ⟨g, 0, none⟩ cap t.data.toList Tryz.underlying101 Tryz.underlying5 Tryz.underlying9 h.2
  rw [e] at this
  exact this

theorem PBy.keep {B b g : Nat} {t : ByteArray} {w w' : World} (h : PBy g t w) (hk : Keeps B b w w') (hg : g < B) (hne : g ≠ b) : PBy g t w' := by
  refine ⟨Nat.lt_of_lt_of_le h.1 hk.size, fun j hj => ?_⟩
  rw [← h.2 j hj]
  have hadd : (⟨g, 0, none⟩ : Addr).add j = ⟨g, j, none⟩ := by unfold Addr.add; split <;> simp_all
  rw [hadd]
  exact World.cell?_of_block (w := w) (hk.block g hg hne)

/-- Block b is a writer that takes so many bytes, and fails or not; it has got this. -/
def Tk (b : Nat) (most : Int) (fail : Bool) (got : ByteArray) (w : World) : Prop := w.heap[b]? = some (.cells #[.int .i64 most, .bool fail, .string got] 118 (0, 0))

theorem Tk.cells {b : Nat} {most : Int} {fail : Bool} {got : ByteArray} {w : World} (h : Tk b most fail got w) : w.cell? ⟨b, 0, none⟩ = some (.int .i64 most) ∧ w.cell? ⟨b, 1, none⟩ = some (.bool fail) ∧ w.cell? ⟨b, 2, none⟩ = some (.string got) ∧ w.frozen? ⟨b, 2, none⟩ = false := by
  unfold Tk at h
  simp [World.cell?, World.frozen?, h]
theorem Tk.set {b : Nat} {most : Int} {fail : Bool} {got : ByteArray} {w : World} (h : Tk b most fail got w) (s : ByteArray) : Tk b most fail s (w.setCell ⟨b, 2, none⟩ (.string s)) :=
  heap_set (cs := [.int .i64 most, .bool fail, .string got]) h 2 _

def failedS : ByteArray := ⟨#[102, 97, 105, 108, 101, 100]⟩
def errV (fail : Bool) : Value := if fail then .iface 315 (.string failedS) else .nilIface

set_option maxRecDepth 100000 in
set_option maxHeartbeats 1000000 in
theorem takerWrite_any {b g : Nat} (cap : Nat) (most own : Int) (fail : Bool) (got t : ByteArray) (w : World) (h : Tk b most fail got w) (hp : PBy g t w) (h0 : 0 ≤ most) (ht : t.size ≤ 100000) (hg : got.size ≤ 100000) (hown : own = min (t.size : Int) most) :
    Calls Tryz.prog 222 #[.pointer (some ⟨b, 0, none⟩), .slice (some ⟨g, 0, none⟩) t.size cap] w fun r w' => r = .returned (.tuple #[.int .i64 own, errV fail]) ∧ Tk b most fail (got ++ t) w' ∧ Keeps w.heap.size b w w' := by
  obtain ⟨c0, c1, c2, c3⟩ := h.cells
  have H := Lib.hid h
  have hs := (show PBy g t w.drew from hp).str cap
  have k1 : ¬ (9223372036854775807 < got.size + t.size) := by omega
  have e := Lib.hid (show min (t.size : Int) (max most 0) = own by omega)
  clear h hp hown
  cases fail
  all_goals
    unfold errV failedS
    go_enter Tryz.func222, Tryz.ntmps222
    go_wp2_with fail
    refine wp_region_still_tail 9 (by kernel_rfl) (by kernel_rfl) ?_
    change wpStill Tryz.prog _ (World.drew _) (fun a' => wpList Tryz.prog _ _ _ a' (World.drew _)) _ _
    simp only [List.take_succ_cons, List.take_zero, List.drop_succ_cons, List.drop_zero]
    repeat still_step
    refine wpStill_nil ?_
    go_wp2
    go_ret2
    refine ⟨?_, (show Tk b most _ got w.drew from H.out).set _, Keeps.setCell (p := ⟨b, 2, none⟩) (show Keeps w.heap.size b w w.drew from ⟨rfl, rfl, rfl, Nat.le_refl _, fun _ _ _ => rfl⟩) (.inl rfl) _⟩
    rw [← e.out]
    rfl

theorem eq_iface (s : ByteArray) (w : World) : (binOp .eql 120 (.iface 315 (.string s)) .nilIface).run Tryz.prog w = .ok (.bool false) w := by kernel_rfl
theorem eq_errs (v : Value) (w : World) : (binOp .eql 120 (.iface 172 v) .nilIface).run Tryz.prog w = .ok (.bool false) w := by kernel_rfl
theorem assert_told (s : ByteArray) (w : World) : (Instr.typeAssert (.iface 315 (.string s)) 120 172 true).run Tryz.prog w = .ok (.tuple #[.slice none 0 0, .bool false]) w := by kernel_rfl
theorem assert_errs (v : Value) (w : World) : (Instr.typeAssert (.iface 172 v) 120 172 true).run Tryz.prog w = .ok (.tuple #[v, .bool true]) w := by kernel_rfl

end Go.Proofs.YtchmhdmapknmfaaGreatDoor
