/-
  The buffer of the JSON encoder, continued: Len, Bytes, String, AppendString.
-/
import Derived.Test.YtchmhdmapknmfaaGreatDoorBa
import Derived.Lib.AppendStr
import Derived.Laws.BytesString
namespace Go.Proofs.YtchmhdmapknmfaaGreatDoor
open Go.RowKit

theorem bRow_length (xs : List UInt8) : (bRow xs).length = xs.length := by simp [bRow]
theorem bRow_append (xs ys : List UInt8) : bRow (xs ++ ys) = bRow xs ++ bRow ys := by simp [bRow]
theorem bRow_str (s : ByteArray) : Lib.strCells s = bRow s.data.toList := rfl

theorem foldl_push (xs : List UInt8) : ∀ a : ByteArray, (xs.map fun x => (x.toNat : Int)).foldl (fun r n => r.push (UInt8.ofNat n.toNat)) a = ⟨a.data ++ xs.toArray⟩ := by
  induction xs with
  | nil => intro a; simp
  | cons x xs ih =>
    intro a
    simp only [List.map_cons, List.foldl_cons]
    rw [ih]
    simp [ByteArray.push, List.push_append_toArray]

/-- 'string(b)' of an owned row of bytes. -/
theorem run_string_own {w : World} {B n : Nat} {v : Value} {xs : List UInt8} (h : w.ownsRow B 5 1 v n (bRow xs)) : (convert 101 9 v).run Tryz.prog w = .ok (.string ⟨xs.toArray⟩) w := by
  obtain ⟨p, k, hv⟩ := slice_of_own h
  subst hv
  rw [run_convert_bytes_string w 101 9 5 p n k Tryz.underlying101 Tryz.underlying5 Tryz.underlying9]
  have hn : xs.length = n := by have := h.1; rw [bRow_length] at this; omega
  cases p with
  | none =>
    have : n = 0 := by
      obtain ⟨_, ⟨h1, h2⟩ | ⟨g, cap, cur, hv, _⟩⟩ := h
      · exact h2
      · cases hv
    have hx : xs = [] := List.eq_nil_of_length_eq_zero (by omega)
    subst hx
    rfl
  | some a =>
    have hg : ∃ g, a = ⟨g, 0, none⟩ := by
      obtain ⟨_, ⟨h1, h2⟩ | ⟨g, cap, cur, hv, _⟩⟩ := h
      · cases h1
      · cases hv; exact ⟨g, rfl⟩
    obtain ⟨g, rfl⟩ := hg
    have hc := h.cells (g := g) rfl
    have hload := run_loadCells_list (P := Tryz.prog) (w := w) ⟨g, 0, none⟩ (bRow xs) hc
    have e : bRow xs = (xs.map fun x => (x.toNat : Int)).map (Value.int .u8) := by simp [bRow]
    rw [bRow_length, hn, e] at hload
    rw [run_bytesToString w ⟨g, 0, none⟩ n k (xs.map fun x => (x.toNat : Int)) (by simpa using hload), foldl_push]
    simp [ByteArray.empty, ByteArray.emptyWithCapacity]
    rfl

set_option maxRecDepth 100000 in
set_option maxHeartbeats 400000 in
theorem len_any {B b : Nat} {xs : List UInt8} (w : World) (h : Buf B b xs w) :
    Calls Tryz.prog 250 #[.pointer (some ⟨b, 0, none⟩)] w fun e w' => e = .returned (.int .i64 xs.length) ∧ w = w' := by
  obtain ⟨hlt, hle, sv, hblk, hown⟩ := h
  have hb := cell_of_one hblk
  obtain ⟨p, k, hv⟩ := slice_of_own hown
  rw [hv] at hb
  clear hv hown hblk
  go_enter Tryz.func250, Tryz.ntmps250
  go_wp2
  go_ret
  exact ⟨rfl, rfl⟩

set_option maxRecDepth 100000 in
set_option maxHeartbeats 400000 in
theorem bytes_any {b : Nat} {sv : Value} (w : World) (hb : w.cell? ⟨b, 0, none⟩ = some sv) :
    Calls Tryz.prog 253 #[.pointer (some ⟨b, 0, none⟩)] w fun e w' => e = .returned sv ∧ w = w' := by
  go_enter Tryz.func253, Tryz.ntmps253
  go_wp2
  go_ret
  exact ⟨rfl, rfl⟩

set_option maxRecDepth 100000 in
set_option maxHeartbeats 400000 in
theorem string_any {B b : Nat} {xs : List UInt8} (w : World) (h : Buf B b xs w) :
    Calls Tryz.prog 72 #[.pointer (some ⟨b, 0, none⟩)] w fun e w' => e = .returned (.string ⟨xs.toArray⟩) ∧ w = w' := by
  obtain ⟨hlt, hle, sv, hblk, hown⟩ := h
  have hb := cell_of_one hblk
  have hs := run_string_own hown
  obtain ⟨p, k, hv⟩ := slice_of_own hown
  rw [hv] at hb hs
  clear hv hown hblk
  go_enter Tryz.func72, Tryz.ntmps72
  go_wp2
  go_ret
  exact ⟨rfl, rfl⟩

set_option maxRecDepth 100000 in
set_option maxHeartbeats 400000 in
theorem appendString_any {B b : Nat} {xs : List UInt8} (s : ByteArray) (w : World) (h : Buf B b xs w) (hn : xs.length + s.size ≤ 140737488355328) :
    Calls Tryz.prog 129 #[.pointer (some ⟨b, 0, none⟩), .string s] w fun e w' => e = .returned (.tuple #[]) ∧ Buf B b (xs ++ s.data.toList) w' ∧ Keeps B b w w' := by
  obtain ⟨hlt, hle, sv, hblk, hown⟩ := h
  obtain ⟨i0, hi, hz0, hz1, hz2⟩ := info_parts Tryz.info5
  have hb := cell_of_one hblk
  have hf := free_of_one hblk
  have Hown := Lib.hid hown
  have Hblk := Lib.hid hblk
  clear hown hblk
  go_enter Tryz.func129, Tryz.ntmps129
  go_wp2_with (at_builtin; refine Lib.wpList_append_own_string _ rfl _ _ 101 9 rfl B 5 i0 Tryz.underlying101 Tryz.underlying9 hi hz0 hz1 hz2 _ _ _ rfl Hown.out s rfl ?c1 ?c2 ?c3 ?_)
  case c1 => unfold maxLen; omega
  case c2 => omega
  case c3 => exact hle
  intro v' w1 hown1 hgrow _
  have Hown1 := Lib.hid hown1
  have Hgrow := Lib.hid hgrow
  have hne : some b ≠ sv.ownBlock := fun e => by
    obtain ⟨_, h | ⟨g, cap, cur, hv, hg', _⟩⟩ := Hown.out
    · rw [h.1] at e; simp [Value.ownBlock] at e
    · rw [hv] at e; simp [Value.ownBlock] at e; omega
  have hblk1 : w1.heap[b]? = some (.cells #[sv] 181 (0, 0)) := by
    rw [hgrow.block b (by omega) hne]; exact Hblk.out
  have hb1 := cell_of_one hblk1
  have hf1 := free_of_one hblk1
  obtain ⟨p, k, hv⟩ := slice_of_own hown1
  clear hown1 hgrow hne hblk1
  rw [hv] at Hown1 ⊢
  clear hv
  go_wp2
  go_end0
  refine ⟨rfl, ?_⟩
  refine Buf.put hlt hle Hblk.out Hown.out (Below.refl _ _) Hgrow.out ?_
  have := Hown1.out
  rw [bRow_str, ← bRow_append] at this
  simpa using this
end Go.Proofs.YtchmhdmapknmfaaGreatDoor
