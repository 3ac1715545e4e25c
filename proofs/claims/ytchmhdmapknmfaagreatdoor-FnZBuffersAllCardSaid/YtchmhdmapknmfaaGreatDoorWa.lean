/-
  A buffer of texts: what comes out, and when (plain).
-/
import Derived.Test.YtchmhdmapknmfaaGreatDoorVb
namespace Go.Proofs.YtchmhdmapknmfaaGreatDoor

/-- One operation: a text, a flush, a stop. -/
structure ZbOp where
  text : ByteArray
  sync : Bool
  stop : Bool

structure Zb where
  out : List ByteArray
  wait : ByteArray
  begun : Bool
  stopped : Bool

def zb0 : Zb := ⟨[], ⟨#[]⟩, false, false⟩
def zbSize (n : Int) : Nat := if n = 0 then 262144 else if n < 0 then 4096 else n.toNat
def Zb.flush (s : Zb) : Zb := if s.wait.size = 0 then s else { s with out := s.out ++ [s.wait], wait := ⟨#[]⟩ }
def Zb.room (s : Zb) (sz : Nat) (t : ByteArray) : Zb := if (sz : Int) - (s.wait.size : Int) < (t.size : Int) then s.flush else s
def Zb.lay (s : Zb) (sz : Nat) (t : ByteArray) : Zb := if sz < t.size then { s with out := s.out ++ [t] } else { s with wait := s.wait ++ t }
def Zb.write (s : Zb) (sz : Nat) (t : ByteArray) : Zb := if t.size = 0 then s else (({ s with begun := true } : Zb).room sz t).lay sz t
def Zb.sync (s : Zb) (b : Bool) : Zb := if b then s.flush else s
def Zb.stop (s : Zb) (b : Bool) : Zb := if b && s.begun && !s.stopped then ({ s with stopped := true } : Zb).flush else s
def Zb.step (sz : Nat) (s : Zb) (o : ZbOp) : Zb := ((s.write sz o.text).sync o.sync).stop o.stop
def zbRun (sz : Nat) (L : List ZbOp) : Zb := L.foldl (Zb.step sz) zb0

theorem zbRun_snoc (sz : Nat) (L : List ZbOp) (k : Nat) (h : k < L.length) : zbRun sz (L.take (k + 1)) = Zb.step sz (zbRun sz (L.take k)) L[k] := by
  unfold zbRun
  rw [List.take_succ_eq_append_getElem h, List.foldl_append]
  rfl

theorem zbSize_pos (n : Int) : 0 < zbSize n := by unfold zbSize; split <;> (try split) <;> omega
theorem zbSize_le {n : Int} (h : n ≤ 300000) : zbSize n ≤ 300000 := by unfold zbSize; split <;> (try split) <;> omega

/-- What waits fits; before the first text nothing waits. -/
structure Zb.Ok (s : Zb) (sz : Nat) : Prop where
  fit : s.wait.size ≤ sz
  none : s.begun = false → s.wait = ⟨#[]⟩ ∧ s.stopped = false

theorem ba_size0 {t : ByteArray} (h : t.size = 0) : t = ⟨#[]⟩ := ByteArray.ext (Array.eq_empty_of_size_eq_zero h)
theorem ba_append_empty (t : ByteArray) : t ++ (⟨#[]⟩ : ByteArray) = t := ByteArray.ext (by rw [ByteArray.data_append]; simp)
theorem ba_empty_append (t : ByteArray) : (⟨#[]⟩ : ByteArray) ++ t = t := ByteArray.ext (by rw [ByteArray.data_append]; simp)
theorem ba_size_append (a b : ByteArray) : (a ++ b).size = a.size + b.size := ByteArray.size_append

theorem Zb.flush_wait (s : Zb) : s.flush.wait = ⟨#[]⟩ := by
  unfold Zb.flush
  split
  · exact ba_size0 (by assumption)
  · rfl
theorem Zb.flush_begun (s : Zb) : s.flush.begun = s.begun := by unfold Zb.flush; split <;> rfl
theorem Zb.flush_stopped (s : Zb) : s.flush.stopped = s.stopped := by unfold Zb.flush; split <;> rfl
theorem Zb.flush_len (s : Zb) : s.flush.out.length ≤ s.out.length + 1 := by unfold Zb.flush; split <;> simp
theorem Zb.flush_id {s : Zb} (h : s.wait = ⟨#[]⟩) : s.flush = s := by unfold Zb.flush; rw [if_pos (by rw [h]; rfl)]

theorem Zb.Ok.flush {s : Zb} {sz : Nat} (h : s.Ok sz) : s.flush.Ok sz :=
  ⟨by rw [Zb.flush_wait]; exact Nat.zero_le _, fun hb => ⟨Zb.flush_wait s, by rw [Zb.flush_stopped]; exact (h.none (by rw [← Zb.flush_begun]; exact hb)).2⟩⟩

theorem Zb.room_fits (s : Zb) (sz : Nat) (t : ByteArray) (h : t.size ≤ sz) : (s.room sz t).wait.size + t.size ≤ sz := by
  unfold Zb.room
  split
  · rw [Zb.flush_wait]
    show 0 + t.size ≤ sz
    omega
  · omega
theorem Zb.room_begun (s : Zb) (sz : Nat) (t : ByteArray) : (s.room sz t).begun = s.begun := by
  unfold Zb.room
  split
  · exact Zb.flush_begun s
  · rfl
theorem Zb.room_stopped (s : Zb) (sz : Nat) (t : ByteArray) : (s.room sz t).stopped = s.stopped := by
  unfold Zb.room
  split
  · exact Zb.flush_stopped s
  · rfl
theorem Zb.room_len (s : Zb) (sz : Nat) (t : ByteArray) : (s.room sz t).out.length ≤ s.out.length + 1 := by
  unfold Zb.room
  split
  · exact Zb.flush_len s
  · omega
theorem Zb.room_big (s : Zb) (sz : Nat) (t : ByteArray) (h : sz < t.size) : (s.room sz t).wait = ⟨#[]⟩ := by
  unfold Zb.room
  rw [if_pos (by omega)]
  exact Zb.flush_wait s

theorem Zb.write_begun (s : Zb) (sz : Nat) (t : ByteArray) (ht : t.size ≠ 0) : (s.write sz t).begun = true := by
  unfold Zb.write
  rw [if_neg ht]
  unfold Zb.lay
  split <;> exact Zb.room_begun _ sz t

theorem Zb.Ok.write {s : Zb} {sz : Nat} (h : s.Ok sz) (t : ByteArray) : (s.write sz t).Ok sz := by
  by_cases ht : t.size = 0
  · unfold Zb.write
    rw [if_pos ht]
    exact h
  · refine ⟨?_, fun hb => by rw [Zb.write_begun s sz t ht] at hb; cases hb⟩
    unfold Zb.write
    rw [if_neg ht]
    unfold Zb.lay
    split
    · rename_i hgt
      rw [show (({ (({ s with begun := true } : Zb).room sz t) with out := (({ s with begun := true } : Zb).room sz t).out ++ [t] } : Zb)).wait = (({ s with begun := true } : Zb).room sz t).wait from rfl, Zb.room_big ({ s with begun := true } : Zb) sz t hgt]
      exact Nat.zero_le _
    · have := Zb.room_fits ({ s with begun := true } : Zb) sz t (by omega)
      show ((({ s with begun := true } : Zb).room sz t).wait ++ t).size ≤ sz
      rw [ba_size_append]
      exact this
theorem Zb.Ok.sync {s : Zb} {sz : Nat} (h : s.Ok sz) (b : Bool) : (s.sync b).Ok sz := by
  unfold Zb.sync
  split
  · exact h.flush
  · exact h
theorem Zb.Ok.stop {s : Zb} {sz : Nat} (h : s.Ok sz) (b : Bool) : (s.stop b).Ok sz := by
  unfold Zb.stop
  split
  · rename_i hc
    simp only [Bool.and_eq_true] at hc
    exact Zb.Ok.flush ⟨h.fit, fun hb => by have : s.begun = false := hb; rw [this] at hc; simp at hc⟩
  · exact h
theorem Zb.Ok.step {s : Zb} {sz : Nat} (h : s.Ok sz) (o : ZbOp) : (Zb.step sz s o).Ok sz := ((h.write o.text).sync o.sync).stop o.stop
theorem zb0_ok (sz : Nat) : zb0.Ok sz := ⟨Nat.zero_le _, fun _ => ⟨rfl, rfl⟩⟩
theorem zbRun_ok (sz : Nat) (L : List ZbOp) : (zbRun sz L).Ok sz := by
  have key : ∀ (l : List ZbOp) (s : Zb), s.Ok sz → (l.foldl (Zb.step sz) s).Ok sz := by
    intro l
    induction l with
    | nil => intro s h; exact h
    | cons o l ih => intro s h; exact ih _ (h.step o)
  exact key L zb0 (zb0_ok sz)

/-- An operation brings out at most four texts. -/
theorem Zb.write_len (s : Zb) (sz : Nat) (t : ByteArray) : (s.write sz t).out.length ≤ s.out.length + 2 := by
  unfold Zb.write
  split
  · omega
  · have h := Zb.room_len ({ s with begun := true } : Zb) sz t
    unfold Zb.lay
    split
    · show ((({ s with begun := true } : Zb).room sz t).out ++ [t]).length ≤ _
      rw [List.length_append]
      have h2 : ({ s with begun := true } : Zb).out = s.out := rfl
      rw [h2] at h
      simp only [List.length_singleton]
      omega
    · show (({ s with begun := true } : Zb).room sz t).out.length ≤ _
      have h2 : ({ s with begun := true } : Zb).out = s.out := rfl
      rw [h2] at h
      omega
theorem Zb.sync_len (s : Zb) (b : Bool) : (s.sync b).out.length ≤ s.out.length + 1 := by
  unfold Zb.sync
  split
  · exact Zb.flush_len s
  · omega
theorem Zb.stop_len (s : Zb) (b : Bool) : (s.stop b).out.length ≤ s.out.length + 1 := by
  unfold Zb.stop
  split
  · exact Zb.flush_len ({ s with stopped := true } : Zb)
  · omega
theorem Zb.step_len (sz : Nat) (s : Zb) (o : ZbOp) : (Zb.step sz s o).out.length ≤ s.out.length + 4 := by
  have h1 := Zb.write_len s sz o.text
  have h2 := Zb.sync_len (s.write sz o.text) o.sync
  have h3 := Zb.stop_len ((s.write sz o.text).sync o.sync) o.stop
  unfold Zb.step
  omega
theorem zbRun_len (sz : Nat) (L : List ZbOp) : (zbRun sz L).out.length ≤ 4 * L.length := by
  have key : ∀ (l : List ZbOp) (s : Zb), (l.foldl (Zb.step sz) s).out.length ≤ s.out.length + 4 * l.length := by
    intro l
    induction l with
    | nil => intro s; simp
    | cons o l ih =>
      intro s
      have := ih (Zb.step sz s o)
      have := Zb.step_len sz s o
      simp only [List.foldl_cons, List.length_cons]
      omega
  have := key L zb0
  unfold zbRun
  simpa [zb0] using this

/-- All texts joined. -/
def zbAll (L : List ByteArray) : ByteArray := L.foldl (fun a b => a ++ b) ⟨#[]⟩
theorem zbAll_snoc (L : List ByteArray) (t : ByteArray) : zbAll (L ++ [t]) = zbAll L ++ t := by unfold zbAll; rw [List.foldl_append]; rfl
theorem zbAll_take (L : List ByteArray) (k : Nat) (h : k < L.length) : zbAll (L.take (k + 1)) = zbAll (L.take k) ++ L[k] := by
  rw [List.take_succ_eq_append_getElem h, zbAll_snoc]
/-- What came out and what waits. -/
def Zb.all (s : Zb) : ByteArray := zbAll s.out ++ s.wait
theorem Zb.flush_all (s : Zb) : s.flush.all = s.all := by
  unfold Zb.flush
  split
  · rfl
  · unfold Zb.all
    show zbAll (s.out ++ [s.wait]) ++ (⟨#[]⟩ : ByteArray) = _
    rw [zbAll_snoc, ba_append_empty]
theorem ba_assoc (a b c : ByteArray) : a ++ b ++ c = a ++ (b ++ c) := ByteArray.ext (by simp only [ByteArray.data_append, Array.append_assoc])
theorem Zb.room_all (s : Zb) (sz : Nat) (t : ByteArray) : (s.room sz t).all = s.all := by
  unfold Zb.room
  split
  · exact Zb.flush_all s
  · rfl
theorem Zb.write_all (s : Zb) (sz : Nat) (t : ByteArray) : (s.write sz t).all = s.all ++ t := by
  unfold Zb.write
  split
  · rename_i ht
    rw [ba_size0 ht, ba_append_empty]
  · have hr := Zb.room_all ({ s with begun := true } : Zb) sz t
    have hs : ({ s with begun := true } : Zb).all = s.all := rfl
    rw [hs] at hr
    rw [← hr]
    unfold Zb.lay
    split
    · rename_i hgt
      have hw := Zb.room_big ({ s with begun := true } : Zb) sz t hgt
      unfold Zb.all
      show zbAll ((({ s with begun := true } : Zb).room sz t).out ++ [t]) ++ (({ s with begun := true } : Zb).room sz t).wait = _
      rw [hw, zbAll_snoc, ba_append_empty, ba_append_empty]
    · unfold Zb.all
      show zbAll (({ s with begun := true } : Zb).room sz t).out ++ ((({ s with begun := true } : Zb).room sz t).wait ++ t) = _
      rw [ba_assoc]
theorem Zb.sync_all (s : Zb) (b : Bool) : (s.sync b).all = s.all := by
  unfold Zb.sync
  split
  · exact Zb.flush_all s
  · rfl
theorem Zb.stop_all (s : Zb) (b : Bool) : (s.stop b).all = s.all := by
  unfold Zb.stop
  split
  · exact Zb.flush_all _
  · rfl
theorem Zb.step_all (s : Zb) (sz : Nat) (o : ZbOp) : (Zb.step sz s o).all = s.all ++ o.text := by
  unfold Zb.step
  rw [Zb.stop_all, Zb.sync_all, Zb.write_all s sz]
theorem zbRun_all (sz : Nat) (L : List ZbOp) : (zbRun sz L).all = zbAll (L.map ZbOp.text) := by
  have key : ∀ (l : List ZbOp) (s : Zb), (l.foldl (Zb.step sz) s).all = (l.map ZbOp.text).foldl (fun a b => a ++ b) s.all := by
    intro l
    induction l with
    | nil => intro s; rfl
    | cons o l ih =>
      intro s
      have := ih (Zb.step sz s o)
      simp only [List.foldl_cons, List.map_cons]
      rw [this, Zb.step_all s sz]
  have := key L zb0
  unfold zbRun zbAll
  rw [this]
  rfl
/-- Behind a last flush all has come out. -/
theorem zbRun_flushed (sz : Nat) (L : List ZbOp) : zbAll (zbRun sz (L ++ [⟨⟨#[]⟩, true, false⟩])).out = zbAll (L.map ZbOp.text) := by
  have h1 := zbRun_all sz (L ++ [⟨⟨#[]⟩, true, false⟩])
  have h2 : (zbRun sz (L ++ [⟨⟨#[]⟩, true, false⟩])).wait = ⟨#[]⟩ := by
    unfold zbRun
    rw [List.foldl_append]
    exact Zb.flush_wait _
  unfold Zb.all at h1
  rw [h2, ba_append_empty] at h1
  rw [h1, List.map_append, List.map_cons, List.map_nil, zbAll_snoc]
  exact ba_append_empty _
theorem zbRun_one (sz : Nat) (t : ByteArray) (hs : sz = 8) (h : t.size = 1) : (zbRun sz [⟨t, true, false⟩]).out.length = 1 := by
  subst hs
  have e0 : ((⟨[], ⟨#[]⟩, true, false⟩ : Zb).room 8 t) = ⟨[], ⟨#[]⟩, true, false⟩ := by
    unfold Zb.room
    rw [if_neg (by rw [h]; decide)]
  unfold zbRun
  simp only [List.foldl_cons, List.foldl_nil]
  unfold Zb.step Zb.write zb0
  rw [if_neg (by rw [h]; decide), e0]
  unfold Zb.lay
  rw [if_neg (by rw [h]; decide)]
  unfold Zb.sync Zb.stop
  rw [if_pos rfl, if_neg (by simp)]
  unfold Zb.flush
  rw [if_neg (by rw [ba_size_append, h]; decide)]
  rfl
end Go.Proofs.YtchmhdmapknmfaaGreatDoor
