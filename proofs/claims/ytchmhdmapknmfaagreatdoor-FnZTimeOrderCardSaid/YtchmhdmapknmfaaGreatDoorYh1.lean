/-
  Joined: Ua Ub Uc Ud Ue Uf. (Joined by merge.py out of several texts.)
-/
import Derived.Test.YtchmhdmapknmfaaGreatDoorYg
import Derived.Test.YtchmhdmapknmfaaGreatDoorBd3
import Derived.Test.YtchmhdmapknmfaaGreatDoorBi
import Derived.StillTailTactics
import Derived.Test.YtchmhdmapknmfaaGreatDoorYb
import Derived.Laws.Cover1
import Derived.SevenTiedAt
import Derived.Lib.SmallJoins
import Derived.Test.YtchmhdmapknmfaaGreatDoorF8

/-
  The encoder of moments by a layout: a buffer whose row of bytes package time has written.
-/
namespace Go.Proofs.YtchmhdmapknmfaaGreatDoor
open Go.RowKit
attribute [local go_sem ↓] Go.wp_at_zero Go.wp_at_succ

/-- Block b is a buffer that holds bytes, in a block from B on of any type. -/
structure BufR (B b : Nat) (xs : List UInt8) (w : World) : Prop where
  lt : b < B
  le : B ≤ w.heap.size
  own : ∃ sv, w.heap[b]? = some (.cells #[sv] 181 (0, 0)) ∧ BR B sv xs w

theorem bufR_of {B b : Nat} {xs : List UInt8} {w : World} (h : Buf B b xs w) (hx : 0 < xs.length) : BufR B b xs w := by
  obtain ⟨hlt, hle, sv, hblk, hown⟩ := h
  refine ⟨hlt, hle, sv, hblk, ?_⟩
  obtain ⟨h1, ⟨h2, h3⟩ | ⟨g, cap, cur, hv, hg, hrow, hcap, hm, hsz, htake⟩⟩ := hown
  · omega
  · rw [Nat.mul_one] at hsz htake
    exact ⟨g, cap, 5, cur, hv, hg, hrow, hcap, hm, hsz, htake⟩

theorem BR.setCell {B b : Nat} {v u : Value} {xs : List UInt8} {w : World} (h : BR B v xs w) (hb : b < B) : BR B v xs (w.setCell ⟨b, 0, none⟩ u) := by
  obtain ⟨g, cap, tg, cur, rfl, h0, hgg, h1, h2, h3, h4⟩ := h
  refine ⟨g, cap, tg, cur, rfl, h0, ?_, h1, h2, h3, h4⟩
  rw [Below.heap_setCell _ _ _ _ (by show g ≠ b; omega)]
  exact hgg

theorem keeps_gw {B b : Nat} {v v' : Value} {w w' : World} (hB : B ≤ w.heap.size) (hv : ∀ k, v.ownBlock = some k → B ≤ k) (g : Gw v w v' w') : Keeps B b w w' := grown_keeps g.1 hB (fun k e => hv k e)

/-- Behind a growing append and the store of the new slice. -/
theorem BufR.put {B b : Nat} {sv v' : Value} {xs ys : List UInt8} {w w1 : World} (hlt : b < B) (hle : B ≤ w.heap.size) (hblk : w.heap[b]? = some (.cells #[sv] 181 (0, 0))) (hbr : BR B sv xs w) (h1 : BR B v' ys w1) (hg : Gw sv w v' w1) :
    BufR B b ys (w1.setCell ⟨b, 0, none⟩ v') ∧ Keeps B b w (w1.setCell ⟨b, 0, none⟩ v') := by
  have hrow : ∀ k, sv.ownBlock = some k → B ≤ k := fun k hk => (hbr.lt k hk).1
  have hne : some b ≠ sv.ownBlock := fun e => by have := hrow b e.symm; omega
  have hblk1 : w1.heap[b]? = some (.cells #[sv] 181 (0, 0)) := by
    rw [hg.1.block b (by omega) hne]; exact hblk
  have hk1 : Keeps B b w w1 := keeps_gw hle hrow hg
  exact ⟨⟨hlt, by have := hk1.size; simp [World.setCell]; omega, v', one_setCell hblk1, h1.setCell hlt⟩, hk1.setCell (.inl rfl) _⟩

theorem BR.mono {B B0 : Nat} {v : Value} {xs : List UInt8} {w : World} (h : BR B v xs w) (hB : B0 ≤ B) : BR B0 v xs w := by
  obtain ⟨g, cap, tg, cur, hv, h0, h1⟩ := h
  exact ⟨g, cap, tg, cur, hv, Nat.le_trans hB h0, h1⟩
theorem BR.up {B B0 : Nat} {v : Value} {xs : List UInt8} {w : World} (h : BR B0 v xs w) (hB : ∀ k, v.ownBlock = some k → B ≤ k) : BR B v xs w := by
  obtain ⟨g, cap, tg, cur, hv, h0, h1⟩ := h
  exact ⟨g, cap, tg, cur, hv, hB g (by rw [hv]; rfl), h1⟩

set_option maxRecDepth 100000 in
set_option maxHeartbeats 1000000 in
theorem bufTime_any {B0 B b : Nat} {xs : List UInt8} (l Z : ByteArray) (te na off : Int) (m : Ly.Mo) (t : Nat) (w : World) (h : BufR B b xs w) (hB0 : B0 ≤ B) (C : TmCtx B0 Z off te na m t w) (hno : m.zone = bts Z ∨ No23 (bts l)) (hl : l.size ≤ 600) (hx : xs.length ≤ 1000) :
    Calls Tryz.prog 252 #[.pointer (some ⟨b, 0, none⟩), tmV te na Z off, .string l] w fun r w' => r = .returned (.tuple #[]) ∧ BufR B b (xs ++ Ly.lay (Ly.txt m) (bts l)) w' ∧ Keeps B b w w' := by
  obtain ⟨hlt, hle, sv, hblk, hbr⟩ := h
  obtain ⟨o, ho⟩ : ∃ o : Obj, o = .cells #[.int .i64 te, .int .i32 na, .string Z, .int .i64 off] 96 := ⟨_, rfl⟩
  have hblk0 : (w.alloc o).heap[b]? = some (.cells #[sv] 181 (0, 0)) := by rw [Below.heap_alloc _ _ _ (by omega)]; exact hblk
  have hb := cell_of_one hblk0
  have HR := Lib.hid (show BR B sv xs (w.alloc o).drew from hbr.alloc o)
  have HC := Lib.hid (C.below (((Below.refl B0 w).alloc C.hB o).drew))
  have HB := Lib.hid (show (w.alloc o).drew.heap[b]? = some (.cells #[sv] 181 (0, 0)) from hblk0)
  have HL := Lib.hid (And.intro hl (And.intro hx (And.intro hlt (And.intro hle hB0))))
  have HK := Lib.hid (Keeps.of_below (b := b) (((Below.refl B w).alloc hle o).drew))
  have Hno := Lib.hid hno
  clear hblk hbr C hl hx hblk0 hlt hle hB0 hno
  subst ho
  unfold tmV
  go_enter Tryz.func252, Tryz.ntmps252
  go_wp2_with fail
  go_region_with ((go_at_call 90; refine (appendFmt_any l Z te na off m t _ (HR.out.mono HL.out.2.2.2.2) HC.out Hno.out HL.out.1 HL.out.2.1).mono ?_; rintro r w1 ⟨v1, rfl, hb0, hg1⟩
                   have hB1 := HL.out.2.2.2.1
                   have hb1 : BR B v1 _ w1 := hb0.up (fun k hk => (hg1.2 k hk).elim (fun e => (HR.out.lt k e).1) (fun e => by simp at e; omega))
                   have hP := BufR.put HL.out.2.2.1 (by simp; omega) HB.out HR.out hb1 hg1
                   have hne : some b ≠ sv.ownBlock := fun e => by have := (HR.out.lt b e.symm).1; have := HL.out.2.2.1; omega
                   have hblk1 : w1.heap[b]? = some (.cells #[sv] 181 (0, 0)) := by
                     rw [hg1.1.block b (by have := HL.out.2.2.1; simp; omega) hne]; exact HB.out
                   have hb2 := cell_of_one hblk1
                   have hf2 := free_of_one hblk1
                   obtain ⟨g, cap, hv, -⟩ := hb1.slice
                   have HP := Lib.hid hP
                   clear hb0 hb1 hg1 hP hne hblk1 hB1
                   generalize (xs ++ Ly.lay (Ly.txt m) (bts l)).length = L at hv
                   rw [hv] at HP ⊢
                   clear hv))
  all_goals
    rename_i HP
    go_end0
    exact ⟨rfl, HP.out.1, HK.out.trans HP.out.2⟩

theorem BufR.mono {B B' b : Nat} {xs : List UInt8} {w : World} (h : BufR B' b xs w) (hB : B ≤ B') (hb : b < B) : BufR B b xs w := by
  obtain ⟨-, hle, sv, h1, h2⟩ := h
  exact ⟨hb, Nat.le_trans hB hle, sv, h1, h2.mono hB⟩
theorem Keeps.less {B B' b : Nat} {w w' : World} (h : Keeps B' b w w') (hB : B ≤ B') : Keeps B b w w' := ⟨h.os, h.tape, h.output, h.size, fun k hk hb => h.block k (Nat.lt_of_lt_of_le hk hB) hb⟩

set_option maxRecDepth 100000 in
set_option maxHeartbeats 400000 in
theorem appendByteR_any {B b : Nat} {xs : List UInt8} (x : UInt8) (c : Int) (w : World) (hc : c = (x.toNat : Int)) (h : BufR B b xs w) (hn : xs.length + 1 ≤ 1000000) :
    Calls Tryz.prog 150 #[.pointer (some ⟨b, 0, none⟩), .int .u8 c] w fun e w' => e = .returned (.tuple #[]) ∧ BufR B b (xs ++ [x]) w' ∧ Keeps B b w w' := by
  obtain ⟨hlt, hle, sv, hblk, hbr⟩ := h
  have hb := cell_of_one hblk
  have hf := free_of_one hblk
  have Hbr := Lib.hid hbr
  have Hblk := Lib.hid hblk
  have Hc := Lib.hid hc
  have HL := Lib.hid (And.intro hlt (And.intro hle hn))
  clear hbr hblk hc
  go_enter Tryz.func150, Tryz.ntmps150
  go_wp2_with (at_builtin; refine wpList_append_br rfl _ _ rfl rfl (Hbr.out.alloc _) [x] ⟨w.heap.size, 0, none⟩ 1 1 rfl rfl ?c1 ?c2 ?c3 ?_)
  case c1 =>
    have h1 := cell_one_new w (.int .u8 c) 5
    rw [Hc.out] at h1 ⊢
    exact h1
  case c2 => simpa using HL.out.2.2
  case c3 => have := HL.out.2.1; simp; omega
  intro v' w1 hbr1 hgw
  have hblk0 : (w.alloc (.cells #[.int .u8 c] 5)).heap[b]? = some (.cells #[sv] 181 (0, 0)) := by rw [Below.heap_alloc _ _ _ (by have := HL.out.1; have := HL.out.2.1; omega)]; exact Hblk.out
  have hP := BufR.put HL.out.1 (by have := HL.out.2.1; simp; omega) hblk0 (Hbr.out.alloc _) hbr1 hgw
  have hne : some b ≠ sv.ownBlock := fun e => by have := (Hbr.out.lt b e.symm).1; have := HL.out.1; omega
  have hblk1 : w1.heap[b]? = some (.cells #[sv] 181 (0, 0)) := by
    rw [hgw.1.block b (by have := HL.out.1; have := HL.out.2.1; simp; omega) hne]; exact hblk0
  have hb1 := cell_of_one hblk1
  have hf1 := free_of_one hblk1
  obtain ⟨g, cap, hv, -⟩ := hbr1.slice
  have hl1 : (xs ++ [x]).length = xs.length + 1 := by simp
  rw [hl1] at hv
  have HP := Lib.hid hP
  clear hbr1 hgw hne hblk1 hblk0 hP hl1
  rw [hv] at HP ⊢
  clear hv
  go_wp2
  go_end0
  exact ⟨rfl, HP.out.1, (Keeps.of_below ((Below.refl B w).alloc HL.out.2.1 _)).trans HP.out.2⟩

set_option maxRecDepth 100000 in
set_option maxHeartbeats 400000 in
theorem lenR_any {B b : Nat} {xs : List UInt8} (w : World) (h : BufR B b xs w) :
    Calls Tryz.prog 250 #[.pointer (some ⟨b, 0, none⟩)] w fun e w' => e = .returned (.int .i64 xs.length) ∧ w = w' := by
  obtain ⟨hlt, hle, sv, hblk, hbr⟩ := h
  have hb := cell_of_one hblk
  obtain ⟨g, cap, hv, -⟩ := hbr.slice
  rw [hv] at hb
  clear hv hbr hblk
  go_enter Tryz.func250, Tryz.ntmps250
  go_wp2
  go_ret
  exact ⟨rfl, rfl⟩

set_option maxRecDepth 100000 in
set_option maxHeartbeats 400000 in
theorem stringR_any {B b : Nat} {xs : List UInt8} (w : World) (h : BufR B b xs w) :
    Calls Tryz.prog 72 #[.pointer (some ⟨b, 0, none⟩)] w fun e w' => e = .returned (.string ⟨xs.toArray⟩) ∧ w = w' := by
  obtain ⟨hlt, hle, sv, hblk, hbr⟩ := h
  have hb := cell_of_one hblk
  have hs := br_string hbr
  obtain ⟨g, cap, hv, -⟩ := hbr.slice
  rw [hv] at hb hs
  clear hv hbr hblk
  go_enter Tryz.func72, Tryz.ntmps72
  go_wp2
  go_ret
  exact ⟨rfl, rfl⟩
end Go.Proofs.YtchmhdmapknmfaaGreatDoor

/-
  ZTimeText by ISO 8601: a moment's text by this layout, between quotation marks.
-/
namespace Go.Proofs.YtchmhdmapknmfaaGreatDoor
open Go.RowKit
attribute [local go_sem ↓] Go.wp_at_zero Go.wp_at_succ

theorem meth_AppendTimeLayout (a : Addr) (w : World) : (method 524 139 (.pointer (some a)) "AppendTimeLayout").run Tryz.prog w = .ok (242, .pointer (some a)) w := by kernel_rfl
theorem meth_AppendTime (a : Addr) (w : World) : (method 524 139 (.pointer (some a)) "AppendTime").run Tryz.prog w = .ok (241, .pointer (some a)) w := by kernel_rfl
theorem nil_AppendTime (a : Addr) (w : World) : (nilAhead 524 139 (.pointer (some a)) "AppendTime").run Tryz.prog w = .ok (some false) w := by kernel_rfl
theorem assert_time (a : Addr) (w : World) : (Instr.typeAssert (.iface 139 (.pointer (some a))) 184 221 true).run Tryz.prog w = .ok (.tuple #[.iface 139 (.pointer (some a)), .bool true]) w := by kernel_rfl
theorem enters55 (args : Array Value) (w : World) : (callFunc 55 args).run Tryz.prog w = .ok (.enter 55 args) w := by kernel_rfl
theorem enters83 (args : Array Value) (w : World) : (callFunc 83 args).run Tryz.prog w = .ok (.enter 83 args) w := by kernel_rfl

theorem neq_func72' (f : Nat) (w : World) : (binOp .neq 71 (.func (.func f) #[] #[]) .nilFunc).run Tryz.prog w = .ok (.bool true) w := by kernel_rfl

/-- Between quotation marks. -/
def qq (T : List UInt8) : List UInt8 := 34 :: (T ++ [34])

/-- A new encoder: its buffer has no row yet. -/
structure EncN (c b e : Nat) (w : World) : Prop where
  ltb : b < w.heap.size
  lte : e < w.heap.size
  ne : e ≠ b
  blkb : w.heap[b]? = some (.cells #[.slice none 0 0] 181 (0, 0))
  blk : w.heap[e]? = some (.cells #[.pointer (some ⟨c, 0, none⟩), .pointer (some ⟨b, 0, none⟩), .bool false, .int .i64 0] 144 (0, 0))

theorem EncN.enc {c b e B : Nat} {w : World} (h : EncN c b e w) (h1 : b < B) (h2 : e < B) (h3 : B ≤ w.heap.size) : Enc B c b e [] w :=
  ⟨⟨h1, h3, _, h.blkb, World.ownsRow_nil _ _ _ _⟩, h2, h.ne, h.blk⟩
theorem EncN.below {c b e : Nat} {w w' : World} (h : EncN c b e w) (hb : Below w.heap.size w w') : EncN c b e w' :=
  ⟨Nat.lt_of_lt_of_le h.ltb hb.size, Nat.lt_of_lt_of_le h.lte hb.size, h.ne, (hb.block b h.ltb).trans h.blkb, (hb.block e h.lte).trans h.blk⟩
theorem EncN.alloc {c b e : Nat} {w : World} (h : EncN c b e w) (o : Obj) : EncN c b e (w.alloc o) := h.below ((Below.refl _ w).alloc (Nat.le_refl _) o)

theorem bufR_drew {B b : Nat} {xs : List UInt8} {w : World} (h : BufR B b xs w) : BufR B b xs w.drew := ⟨h.lt, h.le, h.own⟩

def tmO (te na : Int) (Z : ByteArray) (off : Int) : Obj := .cells #[.int .i64 te, .int .i32 na, .string Z, .int .i64 off] 96

theorem tm_cells {te na off : Int} {Z : ByteArray} {p : Nat} {w : World} (h : w.heap[p]? = some (tmO te na Z off)) :
    w.cell? ⟨p, 0, none⟩ = some (.int .i64 te) ∧ w.cell? ⟨p, 1, none⟩ = some (.int .i32 na) ∧ w.cell? ⟨p, 2, none⟩ = some (.string Z) ∧ w.cell? ⟨p, 3, none⟩ = some (.int .i64 off) := by
  unfold tmO at h
  exact cells4 h

set_option maxRecDepth 100000 in
set_option maxHeartbeats 1000000 in
theorem appendTimeLayout_any {B0 c b e : Nat} (l Z : ByteArray) (te na off : Int) (m : Ly.Mo) (t : Nat) (w : World) (h : EncN c b e w) (hB0 : B0 ≤ b) (C : TmCtx B0 Z off te na m t w) (hno : m.zone = bts Z ∨ No23 (bts l)) (hl : l.size ≤ 600) :
    Calls Tryz.prog 242 #[.pointer (some ⟨e, 0, none⟩), tmV te na Z off, .string l] w fun r w' => r = .returned (.tuple #[]) ∧ BufR w.heap.size b (qq (Ly.lay (Ly.txt m) (bts l))) w' ∧ Keeps w.heap.size b w w' := by
  have hs : (w.alloc (tmO te na Z off)).heap.size = w.heap.size + 1 := by simp
  have h0 := h.alloc (tmO te na Z off)
  have hE := h0.enc (B := w.heap.size + 1) (by have := h.ltb; omega) (by have := h.lte; omega) (by omega)
  have hp0 : (w.alloc (tmO te na Z off)).heap[w.heap.size]? = some (tmO te na Z off) := heap_alloc_new w _
  have Hs := Lib.hid (sep_empty _ hE)
  have hc := (cells4 hE.blk).2.1
  have Ha := Lib.hid (appendByte_any 34 34 _ rfl hE.buf (by simp))
  have HE := Lib.hid hE
  have HC := Lib.hid (C.below ((Below.refl B0 w).alloc C.hB (tmO te na Z off)))
  have HY := Lib.hid (show (Ly.lay (Ly.txt m) (bts l)).length ≤ 180000 by have h1 := lay_len C.ok (bts l); rw [bts_length] at h1; omega)
  have HP := Lib.hid hp0
  have HN := Lib.hid (And.intro hno (And.intro hl (And.intro hB0 (And.intro h.ltb (And.intro h.lte h.ne)))))
  have HK := Lib.hid (Keeps.of_below (b := b) ((Below.refl w.heap.size w).alloc (Nat.le_refl _) (tmO te na Z off)))
  clear h h0 hE hp0 C hno hl hB0 hs
  unfold tmV
  unfold tmO at Hs hc Ha HE HC HP HK
  go_enter Tryz.func242, Tryz.ntmps242
  go_wp2_with fail
  go_at_call 249
  refine Hs.out.mono ?_
  rintro r w' ⟨rfl, rfl⟩
  go_wp2_with fail
  go_at_call 150
  refine Ha.out.mono ?_
  rintro r w1 ⟨rfl, hB, hK⟩
  have hE1 := (cells4 (HE.out.next hB hK).blk).2.1
  obtain ⟨d0, d1, d2, d3⟩ := cells4 ((hK.block w.heap.size (by omega) (by have := HN.out.2.2.2.1; omega)).trans HP.out)
  have hR := bufR_of hB (by simp)
  have HB1 := Lib.hid hR
  have HK1 := Lib.hid hK
  have HC1 := Lib.hid (HC.out.below (hK.below (by have := HN.out.2.2.2.1; have := HN.out.2.2.1; omega) HN.out.2.2.1))
  have hne : e ≠ b := HN.out.2.2.2.2.2
  have hel : e < w.heap.size + 1 := by have := HN.out.2.2.2.2.1; omega
  have hbl : b < w.heap.size := HN.out.2.2.2.1
  have hE1b := (HE.out.next hB hK).blk
  have hpb := (hK.block w.heap.size (by omega) (by omega)).trans HP.out
  have Hb := Lib.hid ((bufTime_any (B0 := B0) (B := w.heap.size + 1) l Z te na off m t w1.drew (bufR_drew hR) (by have := HN.out.2.2.1; omega) (HC1.out.below (Below.drew (Below.refl B0 w1))) HN.out.1 HN.out.2.1 (by simp)).mono
    (fun r w2 (h : r = .returned (.tuple #[]) ∧ BufR (w.heap.size + 1) b ([] ++ [34] ++ Ly.lay (Ly.txt m) (bts l)) w2 ∧ Keeps (w.heap.size + 1) b w1.drew w2) => (⟨h.1, h.2.1, h.2.2, cells4 ((h.2.2.block e hel hne).trans hE1b) |>.2.1, cells4 ((h.2.2.block w.heap.size (show w.heap.size < w.heap.size + 1 by omega) (show w.heap.size ≠ b by omega)).trans hpb)⟩ :
      r = .returned (.tuple #[]) ∧ BufR (w.heap.size + 1) b ([] ++ [34] ++ Ly.lay (Ly.txt m) (bts l)) w2 ∧ Keeps (w.heap.size + 1) b w1.drew w2 ∧ w2.cell? ⟨e, 1, none⟩ = some (.pointer (some ⟨b, 0, none⟩)) ∧
        w2.cell? ⟨w.heap.size, 0, none⟩ = some (.int .i64 te) ∧ w2.cell? ⟨w.heap.size, 1, none⟩ = some (.int .i32 na) ∧ w2.cell? ⟨w.heap.size, 2, none⟩ = some (.string Z) ∧ w2.cell? ⟨w.heap.size, 3, none⟩ = some (.int .i64 off))))
  clear hB hK hR hc Ha Hs hne hel hbl hE1b hpb
  unfold tmV at Hb
  go_wp2_with fail
  go_region_held3 (fun w' => w'.cell? ⟨e, 1, none⟩ = some (.pointer (some ⟨b, 0, none⟩)) ∧ w'.cell? ⟨w.heap.size, 0, none⟩ = some (.int .i64 te) ∧ w'.cell? ⟨w.heap.size, 1, none⟩ = some (.int .i32 na) ∧ w'.cell? ⟨w.heap.size, 2, none⟩ = some (.string Z) ∧ w'.cell? ⟨w.heap.size, 3, none⟩ = some (.int .i64 off)) (go_keep)
    ((go_at_call 252; refine Hb.out.mono ?_; rintro r w2 ⟨rfl, hB, hK, q1, q2, q3, q4, q5⟩))
  all_goals
    have Hc := Lib.hid (appendByteR_any 34 34 _ rfl hB (by have := HY.out; simp; omega))
    have HK2 := Lib.hid ((HK1.out.trans (Keeps.of_below (Below.drew (Below.refl _ w1)))).trans hK)
    clear hB hK
    go_wp2_with fail
    go_at_call 150
    refine Hc.out.mono ?_
    rintro r w3 ⟨rfl, hB, hK⟩
    have HB3 := Lib.hid hB
    have HK3 := Lib.hid (HK2.out.trans hK)
    clear hB hK
    go_wp2
    go_end0
    exact ⟨rfl, by simpa [qq] using HB3.out.mono (by omega) HN.out.2.2.2.1, HK.out.trans (HK3.out.less (by omega))⟩

set_option maxRecDepth 100000 in
set_option maxHeartbeats 1000000 in
theorem encodeTimeLayout_any {B0 c b e : Nat} (l Z : ByteArray) (te na off : Int) (m : Ly.Mo) (t : Nat) (w : World) (h : EncN c b e w) (hB0 : B0 ≤ b) (C : TmCtx B0 Z off te na m t w) (hno : m.zone = bts Z ∨ No23 (bts l)) (hl : l.size ≤ 600) :
    Calls Tryz.prog 126 #[tmV te na Z off, .string l, .iface 139 (.pointer (some ⟨e, 0, none⟩))] w fun r w' => r = .returned (.tuple #[]) ∧ BufR w.heap.size b (qq (Ly.lay (Ly.txt m) (bts l))) w' ∧ Keeps w.heap.size b w w' := by
  have Ha := Lib.hid (appendTimeLayout_any l Z te na off m t _ (h.alloc (tmO te na Z off)) hB0 (C.below ((Below.refl B0 w).alloc C.hB (tmO te na Z off))) hno hl)
  have HK := Lib.hid (Keeps.of_below (b := b) ((Below.refl w.heap.size w).alloc (Nat.le_refl _) (tmO te na Z off)))
  have HL := Lib.hid h.ltb
  have hm := fun w => meth_AppendTimeLayout ⟨e, 0, none⟩ w
  have has := fun w => assert_time ⟨e, 0, none⟩ w
  clear h hB0 C hno hl
  unfold tmV at *
  unfold tmO at *
  go_enter Tryz.func126, Tryz.ntmps126
  go_wp2_with fail
  go_at_call 242
  refine Ha.out.mono ?_
  rintro r w1 ⟨rfl, hB, hK⟩
  have HB1 := Lib.hid hB
  have HK1 := Lib.hid hK
  clear hB hK
  go_wp2
  exact bodyPost_ret (results_none rfl _ _ _) rfl ⟨rfl, HB1.out.mono (by simp) HL.out, HK.out.trans (HK1.out.less (by simp))⟩

/-- The layout of ISO 8601. -/
def isoL : ByteArray := ⟨#[50, 48, 48, 54, 45, 48, 49, 45, 48, 50, 84, 49, 53, 58, 48, 52, 58, 48, 53, 46, 48, 48, 48, 90, 48, 55, 48, 48]⟩
theorem isoL_bts : bts isoL = Ly.iso := rfl
theorem isoL_no : No23 (bts isoL) := by
  rw [isoL_bts]
  unfold No23
  rw [Ly.iso_lay, Ly.iso_lay]
  decide

set_option maxRecDepth 100000 in
set_option maxHeartbeats 1000000 in
theorem isoEncoder_any {B0 c b e : Nat} (Z : ByteArray) (te na off : Int) (m : Ly.Mo) (t : Nat) (w : World) (h : EncN c b e w) (hB0 : B0 ≤ b) (C : TmCtx B0 Z off te na m t w) :
    Calls Tryz.prog 83 #[tmV te na Z off, .iface 139 (.pointer (some ⟨e, 0, none⟩))] w fun r w' => r = .returned (.tuple #[]) ∧ BufR w.heap.size b (qq (Ly.lay (Ly.txt m) Ly.iso)) w' ∧ Keeps w.heap.size b w w' := by
  have Ha := Lib.hid (encodeTimeLayout_any isoL Z te na off m t _ (h.alloc (tmO te na Z off)) hB0 (C.below ((Below.refl B0 w).alloc C.hB (tmO te na Z off))) (.inr isoL_no) (by decide))
  have HK := Lib.hid (Keeps.of_below (b := b) ((Below.refl w.heap.size w).alloc (Nat.le_refl _) (tmO te na Z off)))
  have HL := Lib.hid h.ltb
  rw [isoL_bts] at Ha
  clear h hB0 C
  unfold tmV at *
  unfold tmO isoL at *
  go_enter Tryz.func83, Tryz.ntmps83
  go_wp2_with fail
  go_at_call 126
  refine Ha.out.mono ?_
  rintro r w1 ⟨rfl, hB, hK⟩
  have HB1 := Lib.hid hB
  have HK1 := Lib.hid hK
  clear hB hK
  go_wp2
  go_end0
  exact ⟨rfl, HB1.out.mono (by simp) HL.out, HK.out.trans (HK1.out.less (by simp))⟩

theorem qq_some (T : List UInt8) : ((0 : Int) == ((qq T).length : Int)) = false := by
  rw [beq_eq_false_iff_ne]
  simp only [qq, List.length_cons]
  omega

set_option maxRecDepth 100000 in
set_option maxHeartbeats 1000000 in
theorem jsonTime_any {B0 c b e : Nat} (Z : ByteArray) (te na off : Int) (m : Ly.Mo) (t : Nat) (w : World) (h : EncN c b e w) (hB0 : B0 ≤ b) (C : TmCtx B0 Z off te na m t w) (hcl : c < w.heap.size) (hc10 : w.cell? ⟨c, 10, none⟩ = some (.func (.func 83) #[] #[])) :
    Calls Tryz.prog 241 #[.pointer (some ⟨e, 0, none⟩), tmV te na Z off] w fun r w' => r = .returned (.tuple #[]) ∧ BufR w.heap.size b (qq (Ly.lay (Ly.txt m) Ly.iso)) w' ∧ Keeps w.heap.size b w w' := by
  have h0 := h.alloc (tmO te na Z off)
  have hE := h0.enc (B := w.heap.size) h.ltb h.lte (by simp)
  obtain ⟨hc0, hc1, -, -⟩ := cells4 hE.blk
  have hc10' : (w.alloc (tmO te na Z off)).cell? ⟨c, 10, none⟩ = some (.func (.func 83) #[] #[]) := by
    rw [((Below.refl w.heap.size w).alloc (Nat.le_refl _) (tmO te na Z off)).cell hcl]; exact hc10
  have Hl := Lib.hid (len_nil _ hE.buf)
  have Ha := Lib.hid (isoEncoder_any Z te na off m t _ h0 hB0 (C.below ((Below.refl B0 w).alloc C.hB (tmO te na Z off))))
  have HK := Lib.hid (Keeps.of_below (b := b) ((Below.refl w.heap.size w).alloc (Nat.le_refl _) (tmO te na Z off)))
  have HL := Lib.hid (And.intro h.ltb (And.intro h.lte (And.intro h.ne hE.blk)))
  have HQ := Lib.hid (qq_some (Ly.lay (Ly.txt m) Ly.iso))
  have hne := neq_func72' 83
  have hen := enters83
  clear h h0 hE hB0 C hcl hc10
  unfold tmV at *
  unfold tmO at *
  go_enter Tryz.func241, Tryz.ntmps241
  go_wp2_with fail
  go_at_call 250
  refine Hl.out.mono ?_
  rintro r w' ⟨rfl, rfl⟩
  go_wp2_with fail
  go_at_call 83
  refine Ha.out.mono ?_
  rintro r w1 ⟨rfl, hB, hK⟩
  have hc1' := (cells4 ((hK.block e (by have := HL.out.2.1; simp; omega) HL.out.2.2.1).trans HL.out.2.2.2)).2.1
  have Hl1 := Lib.hid (lenR_any w1 hB)
  have HB1 := Lib.hid hB
  have HK1 := Lib.hid hK
  have hq := HQ.out
  clear hB hK
  go_wp2_with fail
  go_at_call 250
  refine Hl1.out.mono ?_
  rintro r w' ⟨rfl, rfl⟩
  go_wp2
  go_end0
  exact ⟨rfl, HB1.out.mono (by simp) HL.out.1, HK.out.trans (HK1.out.less (by simp))⟩
end Go.Proofs.YtchmhdmapknmfaaGreatDoor

/-
  ZTimeText by ISO 8601, continued: the function value that is handed to Value; ZTimeText.
-/
namespace Go.Proofs.YtchmhdmapknmfaaGreatDoor
open Go.RowKit
attribute [local go_sem ↓] Go.wp_at_zero Go.wp_at_succ

/-- A Time of N nanoseconds. -/
def TmOk (N te na : Int) : Prop := te = N / 1000000000 + 62135596800 ∧ na = N % 1000000000

theorem tmCtx_iso {B0 : Nat} {N off te na : Int} {Z : ByteArray} {w0 w : World} (hT : Tabs w0) (hb : Below w0.heap.size w0 w) (hB0 : B0 = w0.heap.size) (h1 : -9223372036854775808 ≤ N) (h2 : N ≤ 9223372036854775807) (h4 : -86400 < off) (h5 : off < 86400) (h6 : off % 60 = 0) (hn : TmOk N te na) :
    TmCtx B0 Z off te na (Ly.moOf N off []) (Ly.secs N off) w := by
  subst hB0
  obtain ⟨e1, e2⟩ := hn
  have g := Ly.secs_ge h1 h4
  refine TmCtx.below (w := w0) ⟨Ly.moOf_ok h1 h2 h4 h5 h6 (Nat.zero_le _), rfl, rfl, by rw [g.2, e1]; omega, by omega, by omega, g.1, Ly.secs_lt h2 h5, ?_, hT.H, Nat.le_refl _, hT.std0, hT.mon, hT.day⟩ hb
  show na = ((N % 1000000000).toNat : Int)
  omega

/-- Blocks below stand. -/
def TcS (w w' : World) : Prop := Below w.heap.size w w'

/-- What a function value of one captured variable writes into a new encoder. -/
def WritesR (f q : Nat) (T : List UInt8) (b e : Nat) (w : World) : Prop :=
  Calls Tryz.prog f #[.iface 139 (.pointer (some ⟨e, 0, none⟩)), .pointer (some ⟨q, 0, none⟩)] w fun r w' => r = .returned (.tuple #[]) ∧ BufR w.heap.size b T w' ∧ Keeps w.heap.size b w w'

set_option maxRecDepth 100000 in
set_option maxHeartbeats 2000000 in
theorem timeClosure {c b e q : Nat} (N off : Int) (Z : ByteArray) (w0 w : World) (hT : Tabs w0) (hbw : Below w0.heap.size w0 w) (h1 : -9223372036854775808 ≤ N) (h2 : N ≤ 9223372036854775807) (h4 : -86400 < off) (h5 : off < 86400) (h6 : off % 60 = 0)
    (h : EncN c b e w) (hB0 : w0.heap.size ≤ b) (hcl : c < w.heap.size) (hc10 : w.cell? ⟨c, 10, none⟩ = some (.func (.func 83) #[] #[])) (hql : q < w.heap.size) (hqb : q ≠ b) (q0 : w.cell? ⟨q, 0, none⟩ = some (.bool false)) (q1 : w.cell? ⟨q, 1, none⟩ = some (.int .i64 N)) (q2 : w.cell? ⟨q, 2, none⟩ = some (.int .i64 off)) (q3 : w.cell? ⟨q, 3, none⟩ = some (.string Z)) :
    WritesR 55 q (qq (Ly.lay (Ly.txt (Ly.moOf N off [])) Ly.iso)) b e w := by
  have Hm := Lib.hid (fun (W : World) (hW : TcS w W) => (moment_any N off Z W h1 h2).mono (fun r w' (g : ∃ te na : Int, _ ∧ _ ∧ _ ∧ _) => (by
    obtain ⟨te, na, e1, e2, e3, e4⟩ := g
    have hw : Below w.heap.size w w' := Below.trans hW (e4.mono (Below.size hW))
    exact ⟨te, na, e1, ⟨e2, e3⟩, hw, (hw.cell hql).trans q0, (hw.cell hql).trans q1, (hw.cell hql).trans q2, (hw.cell hql).trans q3⟩ :
      ∃ te na : Int, r = .returned (tmV te na Z off) ∧ TmOk N te na ∧ TcS w w' ∧ w'.cell? ⟨q, 0, none⟩ = some (.bool false) ∧ w'.cell? ⟨q, 1, none⟩ = some (.int .i64 N) ∧ w'.cell? ⟨q, 2, none⟩ = some (.int .i64 off) ∧ w'.cell? ⟨q, 3, none⟩ = some (.string Z))))
  have Ha := Lib.hid (fun (W : World) (te na : Int) (hW : TcS w W) (hn : TmOk N te na) => (jsonTime_any Z te na off (Ly.moOf N off []) (Ly.secs N off) W (h.below hW) hB0 (tmCtx_iso hT (hbw.trans (Below.mono hW hbw.size)) rfl h1 h2 h4 h5 h6 hn) (Nat.lt_of_lt_of_le hcl (Below.size hW)) ((Below.cell hW hcl).trans hc10)).mono
    (fun r w' (g : _ ∧ _ ∧ _) => (by
      have hk : Keeps w.heap.size b w w' := (Keeps.of_below hW).trans (g.2.2.less (Below.size hW))
      have hc : ∀ i, w'.cell? ⟨q, i, none⟩ = w.cell? ⟨q, i, none⟩ := fun i => World.cell?_of_block (w := w) (hk.block q hql hqb)
      exact ⟨g.1, g.2.1.mono (Below.size hW) h.ltb, hk, (hc 0).trans q0, (hc 1).trans q1, (hc 2).trans q2, (hc 3).trans q3⟩ :
        r = .returned (.tuple #[]) ∧ BufR w.heap.size b (qq (Ly.lay (Ly.txt (Ly.moOf N off [])) Ly.iso)) w' ∧ Keeps w.heap.size b w w' ∧ w'.cell? ⟨q, 0, none⟩ = some (.bool false) ∧ w'.cell? ⟨q, 1, none⟩ = some (.int .i64 N) ∧ w'.cell? ⟨q, 2, none⟩ = some (.int .i64 off) ∧ w'.cell? ⟨q, 3, none⟩ = some (.string Z))))
  have hm := fun w => meth_AppendTime ⟨e, 0, none⟩ w
  have hna := fun w => nil_AppendTime ⟨e, 0, none⟩ w
  have hS : TcS w w.drew := (Below.refl _ w).drew
  clear hT hbw h1 h2 h4 h5 h6 h hB0 hcl hc10 hql hqb
  unfold WritesR
  unfold moV tmV at *
  go_enter Tryz.func55, Tryz.ntmps55
  go_wp2_with fail
  go_region_held3 (fun w' => w'.cell? ⟨q, 0, none⟩ = some (.bool false) ∧ w'.cell? ⟨q, 1, none⟩ = some (.int .i64 N) ∧ w'.cell? ⟨q, 2, none⟩ = some (.int .i64 off) ∧ w'.cell? ⟨q, 3, none⟩ = some (.string Z)) (go_keep) (first
    | (go_at_call 50; refine (Hm.out _ (by assumption)).mono ?_; rintro r w' ⟨te, na, rfl, hn, hw, d0, d1, d2, d3⟩)
    | (go_at_call 241; refine (Ha.out _ _ _ (by assumption) (by assumption)).mono ?_; rintro r w' ⟨rfl, hB, hK, d0, d1, d2, d3⟩))
  all_goals
    go_end0
    exact ⟨rfl, by assumption, by assumption⟩

structure NewEncN (vt vd : Value) (w w' : World) : Prop where
  enc : EncN w.heap.size (w.heap.size + 1) (w.heap.size + 2) w'
  c10 : w'.cell? ⟨w.heap.size, 10, none⟩ = some vt
  c11 : w'.cell? ⟨w.heap.size, 11, none⟩ = some vd
  below : Below w.heap.size w w'
  size : w'.heap.size = w.heap.size + 3

theorem encN_new (w : World) (cs : Array Value) : EncN w.heap.size (w.heap.size + 1) (w.heap.size + 2) (((w.alloc (.cells cs 79)).alloc (.cells #[.slice none 0 0] 181)).alloc (.cells #[.pointer (some ⟨w.heap.size, 0, none⟩), .pointer (some ⟨w.heap.size + 1, 0, none⟩), .bool false, .int .i64 0] 144)) := by
  obtain ⟨h1, h2, h3⟩ := heap3 w (.cells cs 79) (.cells #[.slice none 0 0] 181) (.cells #[.pointer (some ⟨w.heap.size, 0, none⟩), .pointer (some ⟨w.heap.size + 1, 0, none⟩), .bool false, .int .i64 0] 144)
  exact ⟨by simp, by simp, by omega, h2, h3⟩

set_option maxRecDepth 100000 in
set_option maxHeartbeats 1000000 in
theorem newEncoderN_any (vt vd : Value) (w : World) :
    Calls Tryz.prog 71 #[cfgV vt vd, .bool false] w fun r w' => r = .returned (.pointer (some ⟨w.heap.size + 2, 0, none⟩)) ∧ NewEncN vt vd w w' := by
  unfold cfgV
  go_enter Tryz.func71, Tryz.ntmps71
  go_wp2
  go_ret
  exact ⟨rfl, encN_new _ _, cell_new3 _ _ _ _ _ _, cell_new3 _ _ _ _ _ _, (((Below.refl _ _).alloc (Nat.le_refl _) _).alloc (by simp) _).alloc (by simp <;> omega) _, by simp⟩

set_option maxRecDepth 100000 in
set_option maxHeartbeats 400000 in
theorem valueR_any {vt vd : Value} {T : List UInt8} (g q : Nat) (w : World)
    (hg : ∀ args w, (callFunc g args).run Tryz.prog w = .ok (.enter g args) w)
    (HW : ∀ w' H, H = w.heap.size + 1 → Below w.heap.size w w' → EncN H (H + 1) (H + 2) w' → w'.heap.size = H + 3 → w'.cell? ⟨H, 10, none⟩ = some vt → w'.cell? ⟨H, 11, none⟩ = some vd → WritesR g q T (H + 1) (H + 2) w') :
    Calls Tryz.prog 36 #[cfgV vt vd, .func (.func g) #[] #[.pointer (some ⟨q, 0, none⟩)]] w fun r w' => r = .returned (.string ⟨T.toArray⟩) ∧ Below w.heap.size w w' := by
  have HW := Lib.hid HW
  have Hn := Lib.hid (newEncoderN_any vt vd (w.alloc (.cells #[eS, eS, eS, eS, eS, eS, eS, .bool false, eS, .nilFunc, vt, vd, .nilFunc, .nilFunc, eS] 79)))
  unfold cfgV at *
  go_enter Tryz.func36, Tryz.ntmps36
  go_wp2_with fail
  refine Hn.out.mono ?_
  rintro r w1 ⟨rfl, hN⟩
  have HN := Lib.hid hN
  have hb : Below w.heap.size w w1 := ((Below.refl _ w).alloc (Nat.le_refl _) _).trans (hN.below.mono (by simp))
  have Hw := Lib.hid (HW.out w1 (w.heap.size + 1) rfl hb (by simpa using hN.enc) (by simpa using hN.size) (by simpa using hN.c10) (by simpa using hN.c11))
  have Hb := Lib.hid hb
  clear hN hb Hn
  unfold WritesR at Hw
  go_wp2_with fail
  refine Hw.out.mono ?_
  rintro r w2 ⟨rfl, hB, hK⟩
  have hE := HN.out.enc
  simp only [World.size_alloc] at hE
  have hc := (cells4 ((hK.block _ hE.lte hE.ne).trans hE.blk)).2.1
  have Hs := Lib.hid (stringR_any w2 hB)
  have Hb2 := Lib.hid (Hb.out.trans (hK.below Hb.out.size (by omega)))
  clear hB hK hE
  go_wp2_with fail
  refine Hs.out.mono ?_
  rintro r w' ⟨rfl, rfl⟩
  go_wp2
  go_ret
  exact ⟨rfl, Hb2.out⟩

set_option maxRecDepth 100000 in
set_option maxHeartbeats 1000000 in
theorem timeText_iso (N off : Int) (Z : ByteArray) (w : World) (hT : Tabs w) (h1 : -9223372036854775808 ≤ N) (h2 : N ≤ 9223372036854775807) (h4 : -86400 < off) (h5 : off < 86400) (h6 : off % 60 = 0) :
    Calls Tryz.prog 24 #[moV false N off Z, .int .i64 4, .string ⟨#[]⟩] w fun r w' => r = .returned (.string ⟨(qq (Ly.lay (Ly.txt (Ly.moOf N off [])) Ly.iso)).toArray⟩) ∧ Below w.heap.size w w' := by
  have Hc := Lib.hid (config_iso (w.alloc (.cells #[.bool false, .int .i64 N, .int .i64 off, .string Z] 39)))
  have HA := Lib.hid (And.intro hT (And.intro h1 (And.intro h2 (And.intro h4 (And.intro h5 h6)))))
  clear hT h1 h2 h4 h5 h6
  unfold moV
  go_enter Tryz.func24, Tryz.ntmps24
  go_wp2_with fail
  go_at_call 37
  refine Hc.out.mono ?_
  rintro r w1 ⟨rfl, hb⟩
  have hb0 : Below w.heap.size w w1 := ((Below.refl _ w).alloc (Nat.le_refl _) _).trans (hb.mono (by simp))
  have hq := mo_cells w N off Z false w1 (hb.mono (by simp))
  have hs1 : w.heap.size + 1 ≤ w1.heap.size := by have := hb.size; simpa using this
  have HB0 := Lib.hid hb0
  have HQ := Lib.hid hq
  have Hv := Lib.hid (valueR_any (vt := .func (.func 83) #[] #[]) (vd := .nilFunc) (T := qq (Ly.lay (Ly.txt (Ly.moOf N off [])) Ly.iso)) 55 w.heap.size w1 enters55 (by
    intro w' H hH' hbw hE hs h10 _
    have hcl : ∀ i, w'.cell? ⟨w.heap.size, i, none⟩ = w1.cell? ⟨w.heap.size, i, none⟩ := fun i => hbw.cell (by show w.heap.size < _; omega)
    exact timeClosure N off Z w w' HA.out.1 (HB0.out.trans (hbw.mono HB0.out.size)) HA.out.2.1 HA.out.2.2.1 HA.out.2.2.2.1 HA.out.2.2.2.2.1 HA.out.2.2.2.2.2 hE (by omega) (by omega) h10 (by omega) (by omega)
      ((hcl 0).trans HQ.out.1) ((hcl 1).trans HQ.out.2.1) ((hcl 2).trans HQ.out.2.2.1) ((hcl 3).trans HQ.out.2.2.2)))
  clear hb0 hq hb Hc
  go_wp2_with fail
  go_at_call 36
  refine Hv.out.mono ?_
  rintro r w2 ⟨rfl, hb2⟩
  have Hb2 := Lib.hid (HB0.out.trans (hb2.mono (by omega)))
  clear hb2
  go_wp2
  go_ret
  exact ⟨rfl, Hb2.out⟩
end Go.Proofs.YtchmhdmapknmfaaGreatDoor

/-
  FnZTimeOrder: for every two moments at one place the law answers true.
-/
namespace Go.Proofs.YtchmhdmapknmfaaGreatDoor
open Go.RowKit
attribute [local go_sem ↓] Go.wp_at_zero Go.wp_at_succ

theorem qq_ble {a b : List UInt8} (hl : a.length = b.length) (h : Ly.ble a b = true) : Ly.ble (qq a) (qq b) = true := by
  unfold qq
  refine Ly.lex_sep 34 (Ly.ble_app hl ?_)
  unfold Ly.ble at h
  rw [Bool.or_eq_true] at h
  rcases h with h | h
  · exact .inl h
  · exact .inr ⟨beq_iff_eq.1 h, Ly.ble_refl _⟩

theorem iso_len {m1 m2 : Ly.Mo} (o1 : m1.Ok) (o2 : m2.Ok) (h : m1.off = m2.off) : (Ly.lay (Ly.txt m1) Ly.iso).length = (Ly.lay (Ly.txt m2) Ly.iso).length := by
  have p4 : (10000 : Nat) = 10 ^ 4 := rfl
  have := o1.mo; have := o2.mo; have := o1.d; have := o2.d; have := o1.h; have := o2.h; have := o1.mi; have := o2.mi; have := o1.s; have := o2.s; have := o1.na; have := o2.na
  rw [Ly.iso_txt o1.na, Ly.iso_txt o2.na, h]
  simp only [List.length_append, List.length_cons]
  rw [Ly.pad_length (k := 4) (by omega) (p4 ▸ o1.y), Ly.pad_length (k := 4) (by omega) (p4 ▸ o2.y)]
  rw [Ly.pad_length (k := 2) (a := m1.mo) (by omega) (by omega), Ly.pad_length (k := 2) (a := m2.mo) (by omega) (by omega)]
  rw [Ly.pad_length (k := 2) (a := m1.d) (by omega) (by omega), Ly.pad_length (k := 2) (a := m2.d) (by omega) (by omega)]
  rw [Ly.pad_length (k := 2) (a := m1.h) (by omega) (by omega), Ly.pad_length (k := 2) (a := m2.h) (by omega) (by omega)]
  rw [Ly.pad_length (k := 2) (a := m1.mi) (by omega) (by omega), Ly.pad_length (k := 2) (a := m2.mi) (by omega) (by omega)]
  rw [Ly.pad_length (k := 2) (a := m1.s) (by omega) (by omega), Ly.pad_length (k := 2) (a := m2.s) (by omega) (by omega)]
  rw [Ly.pad_length (k := 3) (a := m1.na / 1000000) (by omega) (by omega), Ly.pad_length (k := 3) (a := m2.na / 1000000) (by omega) (by omega)]

/-- The text of N nanoseconds. -/
def isoS (N off : Int) : ByteArray := ⟨(qq (Ly.lay (Ly.txt (Ly.moOf N off [])) Ly.iso)).toArray⟩

theorem isoS_bts (N off : Int) : bts (isoS N off) = qq (Ly.lay (Ly.txt (Ly.moOf N off [])) Ly.iso) := by simp [isoS, bts]

theorem isoS_facts {N M off : Int} (h1 : -9223372036854775808 ≤ N) (h2 : N ≤ 9223372036854775807) (n1 : -9223372036854775808 ≤ M) (n2 : M ≤ 9223372036854775807) (h4 : -86400 < off) (h5 : off < 86400) (h6 : off % 60 = 0) :
    (isoS N off).size = (isoS M off).size ∧ 0 < (isoS N off).size ∧ (N ≤ M → (Op.bytesLess (isoS N off).toList (isoS M off).toList || (isoS N off).toList == (isoS M off).toList) = true) := by
  have o1 := Ly.moOf_ok (zone := []) h1 h2 h4 h5 h6 (Nat.zero_le _)
  have o2 := Ly.moOf_ok (zone := []) n1 n2 h4 h5 h6 (Nat.zero_le _)
  have hl := iso_len o1 o2 rfl
  have e : (isoS N off).size = (isoS M off).size := by
    rw [← bts_length, ← bts_length, isoS_bts, isoS_bts]
    simp [qq, hl]
  refine ⟨e, ?_, fun hle => ?_⟩
  · rw [← bts_length, isoS_bts]
    simp [qq]
  · have t1 : (isoS N off).toList = bts (isoS N off) := Lib.toList_data _
    have t2 : (isoS M off).toList = bts (isoS M off) := Lib.toList_data _
    rw [t1, t2, isoS_bts, isoS_bts]
    exact qq_ble hl (Ly.iso_le (zone := []) h1 h2 n1 n2 h4 h5 h6 (Nat.zero_le _) hle)

/-- The second moment's block stands. -/
def ToS (M off : Int) (Z : ByteArray) (w2 w' : World) : Prop := Below (w2.heap.size + 1) (w2.alloc (.cells #[.bool false, .int .i64 M, .int .i64 off, .string Z] 39)) w'

def ToC (p : Nat) (N off : Int) (Z : ByteArray) (w' : World) : Prop := w'.cell? ⟨p, 0, none⟩ = some (.bool false) ∧ w'.cell? ⟨p, 1, none⟩ = some (.int .i64 N) ∧ w'.cell? ⟨p, 2, none⟩ = some (.int .i64 off) ∧ w'.cell? ⟨p, 3, none⟩ = some (.string Z)

theorem ToS.old {M off N : Int} {Z : ByteArray} {p : Nat} {w2 w' : World} (h : ToS M off Z w2 w') (hp : p < w2.heap.size) (hc : ToC p N off Z w2) : ToC p N off Z w' := by
  have e : ∀ i, w'.cell? ⟨p, i, none⟩ = w2.cell? ⟨p, i, none⟩ := fun i => by
    rw [Below.cell h (by show p < _; omega)]
    exact ((Below.refl w2.heap.size w2).alloc (Nat.le_refl _) _).cell hp
  unfold ToC
  simp only [e]
  exact hc

theorem ToS.step {M off : Int} {Z : ByteArray} {w2 w w' : World} (h : ToS M off Z w2 w) (hb : Below w.heap.size w w') : ToS M off Z w2 w' := by
  have hs := h.size
  simp only [World.alloc, Array.size_push] at hs
  exact Below.trans h (hb.mono (by omega))

theorem ToS.all {M off : Int} {Z : ByteArray} {w w2 w' : World} (hb : Below w.heap.size w w2) (h : ToS M off Z w2 w') : Below w.heap.size w w' :=
  hb.trans ((((Below.refl w2.heap.size w2).alloc (Nat.le_refl _) _).trans (Below.mono h (by omega))).mono hb.size)

def ToK (N : Int) (A : ByteArray) (M : Int) (B : ByteArray) (K : Int) (s : ByteArray) : Prop := K = N ∧ s = A ∨ K = M ∧ s = B

def ToPost (M off N : Int) (Z : ByteArray) (p : Nat) (w2 : World) (s : ByteArray) (r : Ending) (w' : World) : Prop :=
  r = .returned (.string s) ∧ ToS M off Z w2 w' ∧ ToC p N off Z w' ∧ ToC w2.heap.size M off Z w'

theorem toText {M off N K : Int} {Z : ByteArray} {p : Nat} {w0 w2 : World} (hT : Tabs w0) (hb : Below w0.heap.size w0 w2) (k1 : -9223372036854775808 ≤ K) (k2 : K ≤ 9223372036854775807) (h4 : -86400 < off) (h5 : off < 86400) (h6 : off % 60 = 0) (hp : p < w2.heap.size) (hc : ToC p N off Z w2)
    (W : World) (hW : ToS M off Z w2 W) : Calls Tryz.prog 24 #[.agg #[.bool false, .int .i64 K, .int .i64 off, .string Z], .int .i64 4, .string ⟨#[]⟩] W (ToPost M off N Z p w2 (isoS K off)) := by
  have hbW : Below w0.heap.size w0 W := hb.trans (((Below.refl w2.heap.size w2).alloc (Nat.le_refl _) _).trans (Below.mono hW (by omega)) |>.mono hb.size)
  refine (timeText_iso K off Z W (hT.below hbW (Nat.le_refl _)) k1 k2 h4 h5 h6).mono ?_
  rintro r w' ⟨rfl, hb'⟩
  have hS := hW.step hb'
  exact ⟨rfl, hS, hS.old hp hc, mo_cells w2 M off Z false w' hS⟩

set_option maxRecDepth 100000 in
set_option maxHeartbeats 1000000 in
theorem order_main (N M off : Int) (Z : ByteArray) (w : World) (hT : Tabs w) (h1 : -9223372036854775808 ≤ N) (h2 : N ≤ 9223372036854775807) (n1 : -9223372036854775808 ≤ M) (n2 : M ≤ 9223372036854775807) (h4 : -86400 < off) (h5 : off < 86400) (h6 : off % 60 = 0) (h7 : Z.size ≤ 2147483647) :
    Calls Tryz.prog 8 #[moV false N off Z, .int .i64 M] w fun r w' => r = .returned (.bool true) ∧ Below w.heap.size w w' := by
  obtain ⟨f1, f2, f3⟩ := isoS_facts h1 h2 n1 n2 h4 h5 h6
  obtain ⟨-, -, f4⟩ := isoS_facts n1 n2 h1 h2 h4 h5 h6
  have HX := Lib.hid (fun (p : Nat) (w2 : World) (hb : Below w.heap.size w w2) (hp : p < w2.heap.size) (hc : ToC p N off Z w2) (W : World) (hW : ToS M off Z w2 W) => toText (N := N) (K := N) hT hb h1 h2 h4 h5 h6 hp hc W hW)
  have HY := Lib.hid (fun (p : Nat) (w2 : World) (hb : Below w.heap.size w w2) (hp : p < w2.heap.size) (hc : ToC p N off Z w2) (W : World) (hW : ToS M off Z w2 W) => toText (N := N) (K := M) hT hb n1 n2 h4 h5 h6 hp hc W hW)
  have Hf := Lib.hid (fun W => fits10_yes false N off Z h7 W)
  have Hy := Lib.hid (fun W => years_yes N off Z h4 h5 h6 W)
  obtain ⟨A, hA⟩ : ∃ A, A = isoS N off := ⟨_, rfl⟩
  obtain ⟨B, hB⟩ : ∃ B, B = isoS M off := ⟨_, rfl⟩
  rw [← hA, ← hB] at f1 f3 f4
  rw [← hA] at f2 HX
  rw [← hB] at HY
  have g := isEmpty_no f2
  have F1 := Lib.hid f1
  have F2 := Lib.hid (And.intro f3 f4)
  clear hT h4 h5 h6 h7 f1 f2 f3 f4 hA hB
  unfold moV at Hf Hy ⊢
  go_enter Tryz.func8, Tryz.ntmps8
  go_wp2_with fail
  go_at_call 20
  refine (Hf.out _).mono ?_
  rintro r w1 ⟨rfl, hb1⟩
  have hL1 := LpS.start hb1
  obtain ⟨d0, d1, d2, d3⟩ := mo_cells w N off Z false w1 hL1
  have HL1 := Lib.hid hL1
  clear hb1 hL1
  go_wp2_with fail
  go_at_call 21
  refine (Hy.out _).mono ?_
  rintro r w2 ⟨rfl, hb2⟩
  have hL2 := HL1.out.step hb2
  clear d0 d1 d2 d3 hb2
  have hC2 := mo_cells w N off Z false w2 hL2
  have hlt : w.heap.size < w2.heap.size := by have h := Below.size hL2; simp only [World.size_alloc] at h; omega
  have Hx := Lib.hid (fun (K : Int) (s : ByteArray) (hK : ToK N A M B K s) (W : World) (hW : ToS M off Z w2 W) => (by
    rcases hK with ⟨rfl, rfl⟩ | ⟨rfl, rfl⟩
    · exact HX.out w.heap.size w2 hL2.below hlt hC2 W hW
    · exact HY.out w.heap.size w2 hL2.below hlt hC2 W hW : Calls Tryz.prog 24 #[.agg #[.bool false, .int .i64 K, .int .i64 off, .string Z], .int .i64 4, .string ⟨#[]⟩] W (ToPost M off N Z w.heap.size w2 s)))
  have kN : ToK N A M B N A := .inl ⟨rfl, rfl⟩
  have kM : ToK N A M B M B := .inr ⟨rfl, rfl⟩
  have hS0 : ToS M off Z w2 (w2.alloc (.cells #[.bool false, .int .i64 M, .int .i64 off, .string Z] 39)) := Below.refl _ _
  have hO := hS0.old hlt hC2
  have hV := mo_cells w2 M off Z false _ hS0
  have HL2 := Lib.hid hL2.below
  have HS0 := Lib.hid (And.intro hS0 (And.intro hO hV))
  clear hS0 hO hV
  obtain ⟨d0, d1, d2, d3⟩ := hC2
  have HC2 := Lib.hid hlt
  clear hL2 hlt HX HY
  go_wp2_with fail
  obtain ⟨hS0, ⟨a0, a1, a2, a3⟩, e0, e1, e2, e3⟩ := HS0.out
  obtain ⟨W0, hW0⟩ : ∃ W0, W0 = w2.alloc (.cells #[.bool false, .int .i64 M, .int .i64 off, .string Z] 39) := ⟨_, rfl⟩
  rw [← hW0] at hS0 a0 a1 a2 a3 e0 e1 e2 e3 ⊢
  have hS1 : ToS M off Z w2 W0.drew := Below.drew hS0
  clear hW0 hS0 d0 d1 d2 d3 HS0
  by_cases hle : N ≤ M
  · have hres := F2.out.1 hle
    go_region_held3 (fun w' => w'.cell? ⟨w.heap.size, 0, none⟩ = some (.bool false) ∧ w'.cell? ⟨w.heap.size, 1, none⟩ = some (.int .i64 N) ∧ w'.cell? ⟨w.heap.size, 2, none⟩ = some (.int .i64 off) ∧ w'.cell? ⟨w.heap.size, 3, none⟩ = some (.string Z) ∧
      w'.cell? ⟨w2.heap.size, 0, none⟩ = some (.bool false) ∧ w'.cell? ⟨w2.heap.size, 1, none⟩ = some (.int .i64 M) ∧ w'.cell? ⟨w2.heap.size, 2, none⟩ = some (.int .i64 off) ∧ w'.cell? ⟨w2.heap.size, 3, none⟩ = some (.string Z) ∧ ToS M off Z w2 w') (go_keep) ((go_at_call 24; (with_reducible refine (Hx.out _ _ (by assumption) _ (by assumption)).mono ?_); rintro r w' ⟨rfl, hs, ⟨d0, d1, d2, d3⟩, e0, e1, e2, e3⟩))
    all_goals
      have f1 := F1.out
      go_wp2
      go_ret
      exact ⟨rfl, ToS.all HL2.out (by assumption)⟩
  · have hle2 : M < N := by omega
    have hres := F2.out.2 (by omega)
    go_region_held3 (fun w' => w'.cell? ⟨w.heap.size, 0, none⟩ = some (.bool false) ∧ w'.cell? ⟨w.heap.size, 1, none⟩ = some (.int .i64 N) ∧ w'.cell? ⟨w.heap.size, 2, none⟩ = some (.int .i64 off) ∧ w'.cell? ⟨w.heap.size, 3, none⟩ = some (.string Z) ∧
      w'.cell? ⟨w2.heap.size, 0, none⟩ = some (.bool false) ∧ w'.cell? ⟨w2.heap.size, 1, none⟩ = some (.int .i64 M) ∧ w'.cell? ⟨w2.heap.size, 2, none⟩ = some (.int .i64 off) ∧ w'.cell? ⟨w2.heap.size, 3, none⟩ = some (.string Z) ∧ ToS M off Z w2 w') (go_keep) ((go_at_call 24; (with_reducible refine (Hx.out _ _ (by assumption) _ (by assumption)).mono ?_); rintro r w' ⟨rfl, hs, ⟨d0, d1, d2, d3⟩, e0, e1, e2, e3⟩))
    all_goals
      have f1 := F1.out
      go_wp2
      go_ret
      exact ⟨rfl, ToS.all HL2.out (by assumption)⟩

set_option maxRecDepth 100000 in
set_option maxHeartbeats 4000000 in
theorem order_big (zb : Bool) (N M off : Int) (Z : ByteArray) (w : World) (h1 : 2147483647 < Z.size) : Calls Tryz.prog 8 #[moV zb N off Z, .int .i64 M] w fun r w' => r = .returned (.bool true) ∧ Below w.heap.size w w' := by
  have Hf := Lib.hid (fun W => fits10_no zb N off Z (by omega) W)
  clear h1
  unfold moV at Hf ⊢
  go_enter Tryz.func8, Tryz.ntmps8
  go_wp2_with fail
  go_at_call 20
  refine (Hf.out _).mono ?_
  rintro r w1 ⟨rfl, hb1⟩
  have HL1 := Lib.hid (LpS.start hb1)
  clear hb1
  go_wp2
  go_ret
  exact ⟨rfl, HL1.out.below⟩

set_option maxRecDepth 100000 in
set_option maxHeartbeats 4000000 in
theorem order_awake (zb : Bool) (N M off : Int) (Z : ByteArray) (w : World) (hT : Tabs w) (hp : Pow w) (h1 : Z.size ≤ 2147483647) (h4 : ¬ (zb = false ∧ -86400 < off ∧ off < 86400 ∧ off % 60 = 0)) :
    Calls Tryz.prog 8 #[moV zb N off Z, .int .i64 M] w fun r w' => r = .returned (.bool true) ∧ Below w.heap.size w w' := by
  have Hf := Lib.hid (fun W => fits10_yes zb N off Z (by omega) W)
  have Hy := Lib.hid (fun W => years_no zb N off Z h4 W)
  have Ha := Lib.hid (fun (W : World) (hb : Below w.heap.size w W) => awake W (hp.belowB hb hT.H) (Nat.le_trans hT.H hb.size))
  clear hT hp h1 h4
  unfold moV at Hf Hy ⊢
  go_enter Tryz.func8, Tryz.ntmps8
  go_wp2_with fail
  go_at_call 20
  refine (Hf.out _).mono ?_
  rintro r w1 ⟨rfl, hb1⟩
  have hL1 := LpS.start hb1
  obtain ⟨d0, d1, d2, d3⟩ := mo_cells w N off Z zb w1 hL1
  have HL1 := Lib.hid hL1
  clear hb1 hL1
  go_wp2_with fail
  go_at_call 21
  refine (Hy.out _).mono ?_
  rintro r w2 ⟨rfl, hb2⟩
  have hL2 := HL1.out.step hb2
  clear d0 d1 d2 d3 hb2
  have HL2 := Lib.hid hL2
  clear hL2
  go_wp2_with fail
  go_at_call 17
  refine (Ha.out _ HL2.out.below).mono ?_
  rintro r w3 ⟨rfl, hb3⟩
  have Hb3 := Lib.hid (HL2.out.below.trans (hb3.mono HL2.out.below.size))
  clear hb3
  go_wp2
  go_ret
  exact ⟨rfl, Hb3.out⟩

theorem order_law (zb : Bool) (N M off : Int) (Z : ByteArray) (w : World) (hT : Tabs w) (hp : Pow w) (h1 : -9223372036854775808 ≤ N) (h2 : N ≤ 9223372036854775807) (n1 : -9223372036854775808 ≤ M) (n2 : M ≤ 9223372036854775807) :
    Calls Tryz.prog 8 #[moV zb N off Z, .int .i64 M] w fun r w' => r = .returned (.bool true) ∧ Below w.heap.size w w' := by
  by_cases h7 : Z.size ≤ 2147483647
  · by_cases h4 : zb = false ∧ -86400 < off ∧ off < 86400 ∧ off % 60 = 0
    · obtain ⟨rfl, h5, h6, h8⟩ := h4
      exact order_main N M off Z w hT h1 h2 n1 n2 h5 h6 h8 h7
    · exact order_awake zb N M off Z w hT hp h7 h4
  · exact order_big zb N M off Z w (by omega)
end Go.Proofs.YtchmhdmapknmfaaGreatDoor

/-
  FnZTimeOrder: for every two moments at one place the law answers true, what it reads stays as it was: the row, lifted from the walks. Conditions: the listed package-level variables hold what the program's text lays in them (tied).
-/
namespace Go.Proofs.YtchmhdmapknmfaaGreatDoor
open Go.RowKit Go.ChangeShapes Go.WideShapes Go.ChangeAt

set_option maxRecDepth 100000 in
theorem order_lifted (os : Os) (started : os.Started) (H : Type) (enc : TypeId × Value → H) :
    ReturnsInHanded {} Tryz.checked os 8 .any (fun w args => (Rows.fnZTimeOrderSpec.pre enc Tryz.prog Tryz.f8 [] false w args ∧ laidMetH Tryz.prog Rows.fnZTimeOrderRow.laid w) ∧ sizedMet enc Tryz.prog Tryz.f8 (OpenSpec.ofChange Rows.fnZTimeOrderSpec) false w args)
      (Rows.fnZTimeOrderSpec.post enc Tryz.prog Tryz.f8 false true false false) := by
  refine returnsInHanded_of_change_and (C := Tryz.checked) (X := fun w _ => laidMetH Tryz.prog Rows.fnZTimeOrderRow.laid w) (fun _ _ _ hh h => h.of_heap hh) Tryz.own started (by kernel_rfl) Tryz.func8
    (ChangeSpec.witness_shaped (enc := enc) (C := Tryz.checked) (os := os) (X := fun w _ => laidMetH Tryz.prog Rows.fnZTimeOrderRow.laid w) false (World.laidAll Tryz.prog os Rows.fnZTimeOrderRow.laid) #[.agg #[.bool false, .int .i64 0, .int .i64 0, .string ⟨#[]⟩], .int .i64 0] 8 (World.laidAll_os _ _ _)
      (World.shaped_of_ZipB (by kernel_rfl) (by kernel_rfl)) (by kernel_rfl) (by kernel_rfl) (by kernel_rfl)
      (by rw [MakeChecks.laidMetH_plain _ _ _ (by kernel_rfl)]; exact laidMet_laidAll _ (by kernel_rfl) (by kernel_rfl))) ?_
  intro W base args ds gs before hval0 hW _ _ hL _
  have hval : ∀ (j : Nat) t v, Tryz.f8.params[j]? = some t → args[j]? = some v → Value.okWide Tryz.prog W .any base t v := hval0
  have hW' := hW
  obtain ⟨p, q, hA0, hV, rfl, _, _⟩ := hW
  have hA : DataW.TrodAll enc Tryz.prog W 0 (fun _ => true) true Tryz.f8.params.toList args.toList ds p := hA0
  rw [Tryz.params8] at hA hval
  obtain ⟨v0, v1, d0, d1, p0, p1, rfl, rfl, hps, h0, h1⟩ := trodAll_two hA
  obtain ⟨zb, N, off, Z, rfl, n1, n2, rfl, hback⟩ := open_moment (hval 0 39 v0 rfl rfl) h0
  obtain ⟨M, rfl, rfl, rfl, wd⟩ := open_int Tryz.underlying2 (hval 1 2 v1 rfl rfl) h1
  have hd : -9223372036854775808 ≤ M ∧ M ≤ 9223372036854775807 := by
    have e : (Lit.int .i64 M).wf = (decide (-9223372036854775808 ≤ M) && decide (M ≤ 9223372036854775807)) := rfl
    rw [e] at wd
    simpa using wd
  have hps' : p = [] := hps
  subst hps'
  obtain ⟨g1, g2, g3, rfl⟩ := vars3 hV
  rw [MakeChecks.laidMetH_plain _ _ _ (by kernel_rfl)] at hL
  have hp : Pow W := pow_of_reads (pow10_data ▸ Lib.laidMet.reads hL (by simp [Rows.fnZTimeOrderRow]))
  have hH : 11 ≤ W.heap.size := heap11 (d := Rows.laid_math_bits_deBruijn64tab) (Lib.laidMet.reads hL (by simp [Rows.fnZTimeOrderRow]))
  have hT : Tabs W := tabs_of_reads (Lib.laidMet.reads hL (by simp [Rows.fnZTimeOrderRow])) (Lib.laidMet.reads hL (by simp [Rows.fnZTimeOrderRow])) (Lib.laidMet.reads hL (by simp [Rows.fnZTimeOrderRow])) hH
  have key := order_law zb N M off Z W hT hp n1 n2 hd.1 hd.2
  refine key.mono fun e W' ⟨he, hb⟩ => ?_
  subst he
  exact ⟨_, rfl, _, _, _, [], [], q, hW', trodAll_mk1 (shut_bool Tryz.underlying4 _), trodAll_mk2 (hback W' _) (shut_int Tryz.underlying2 wd), hb.trodVars Tryz.laidOut (by kernel_rfl) hV, hb.frame _, fun h => by cases h⟩
end Go.Proofs.YtchmhdmapknmfaaGreatDoor

/-
  FnZTimeOrder: the row, out of its lift.
-/
namespace Go.Proofs.YtchmhdmapknmfaaGreatDoor
open Go.RowKit Go.ChangeShapes Go.WideShapes Go.ChangeAt

set_option maxRecDepth 100000 in
set_option maxHeartbeats 4000000 in
theorem order_row : Rows.FnZTimeOrderSaid :=
  OpenClaim.holds_of_wide 8 Tryz.f8 rfl rfl rfl rfl rfl rfl rfl ⟨rfl, rfl, rfl, rfl, rfl⟩ rfl rfl rfl rfl rfl (by as_aux_lemma => kernel_rfl) Tryz.func8 F8.facts
    (of_decide_eq_true (by as_aux_lemma => kernel_rfl)) (by unfold Func.isWrapper; rw [if_neg (of_decide_eq_false (by as_aux_lemma => kernel_rfl))]; exact ⟨rfl, rfl⟩)
    (fun os started H enc _ => order_lifted os started H enc)

end Go.Proofs.YtchmhdmapknmfaaGreatDoor
