/-
  What writers take: the reference's count.
-/
import Derived.Test.YtchmhdmapknmfaaGreatDoorVb
namespace Go.Proofs.YtchmhdmapknmfaaGreatDoor
open Go.RowKit

/-- A slice of writers as the law hands them over. -/
def TkArr (v : Value) (L : List (Int × Bool)) (w : World) : Prop :=
  L = [] ∧ (∃ p cap, v = .slice p 0 cap) ∨ ∃ b off cap, v = .slice (some ⟨b, off, none⟩) L.length cap ∧ b < w.heap.size ∧
    ∀ i (h : i < L.length), w.cell? ⟨b, off + i * 2, none⟩ = some (.int .i64 L[i].1) ∧ w.cell? ⟨b, off + i * 2 + 1, none⟩ = some (.bool L[i].2)

theorem TkArr.below {v : Value} {L : List (Int × Bool)} {w w' : World} (h : TkArr v L w) (hb : Below w.heap.size w w') : TkArr v L w' := by
  rcases h with h | ⟨b, off, cap, h1, h2, h3⟩
  · exact .inl h
  · exact .inr ⟨b, off, cap, h1, Nat.lt_of_lt_of_le h2 hb.size, fun i hi => ⟨(hb.cell h2).trans (h3 i hi).1, (hb.cell h2).trans (h3 i hi).2⟩⟩

def tkStep (n own : Int) : Int := if n = 0 ∧ own ≠ 0 then own else if own < n then own else n
def tkN (T : Int) (L : List (Int × Bool)) : Int := L.foldl (fun n x => tkStep n (min x.1 T)) 0
def tkE (L : List (Int × Bool)) : Nat := (L.filter fun x => x.2).length

theorem tkN_snoc (T : Int) (L : List (Int × Bool)) (k : Nat) (h : k < L.length) : tkN T (L.take (k + 1)) = tkStep (tkN T (L.take k)) (min L[k].1 T) := by
  unfold tkN
  rw [List.take_succ_eq_append_getElem h, List.foldl_append]
  rfl
theorem tkE_snoc (L : List (Int × Bool)) (k : Nat) (h : k < L.length) : tkE (L.take (k + 1)) = tkE (L.take k) + if L[k].2 then 1 else 0 := by
  unfold tkE
  rw [List.take_succ_eq_append_getElem h, List.filter_append, List.length_append]
  congr 1
  cases hb : L[k].2 <;> simp [hb]
theorem tkStep_bd {n own T : Int} (h0 : 0 ≤ n) (h1 : n ≤ T) (h2 : 0 ≤ own) (h3 : own ≤ T) : 0 ≤ tkStep n own ∧ tkStep n own ≤ T := by
  unfold tkStep
  split
  · omega
  · split <;> omega
theorem tkN_bd {T : Int} (hT : 0 ≤ T) : ∀ (L : List (Int × Bool)), (∀ x ∈ L, 0 ≤ x.1) → 0 ≤ tkN T L ∧ tkN T L ≤ T := by
  intro L
  have key : ∀ (l : List (Int × Bool)) (n : Int), 0 ≤ n → n ≤ T → (∀ x ∈ l, 0 ≤ x.1) → 0 ≤ l.foldl (fun n x => tkStep n (min x.1 T)) n ∧ l.foldl (fun n x => tkStep n (min x.1 T)) n ≤ T := by
    intro l
    induction l with
    | nil => intro n h0 h1 _; exact ⟨h0, h1⟩
    | cons x l ih =>
      intro n h0 h1 hx
      have h2 := hx x (by simp)
      have h3 := tkStep_bd (own := min x.1 T) h0 h1 (by omega) (by omega)
      exact ih _ h3.1 h3.2 (fun y hy => hx y (by simp [hy]))
  intro hL
  exact key L 0 (by omega) hT hL
theorem tkE_le (L : List (Int × Bool)) : tkE L ≤ L.length := List.length_filter_le _ _

/-- What the reference's loop keeps. -/
def TzIs (T : Int) (L : List (Int × Bool)) (v6 v7 v8 : Value) : Prop := ∃ (k : Nat) (n e : Int), v6 = .int .i64 n ∧ v7 = .int .i64 e ∧ v8 = .int .i64 (k : Int) ∧ k ≤ L.length ∧ n = tkN T (L.take k) ∧ e = (tkE (L.take k) : Int)

set_option maxRecDepth 100000 in
set_option maxHeartbeats 2000000 in
theorem taken_any (v : Value) (L : List (Int × Bool)) (t : ByteArray) (w : World) (h : TkArr v L w) (hL : L.length ≤ 20) (h0 : ∀ x ∈ L, 0 ≤ x.1) (ht : t.size ≤ 2000) :
    Calls Tryz.prog 29 #[v, .string t] w fun r w' => ∃ n e : Int, r = .returned (.tuple #[.int .i64 n, .int .i64 e]) ∧ n = tkN t.size L ∧ e = (tkE L : Int) ∧ w = w' := by
  rcases h with ⟨rfl, p, cap, rfl⟩ | ⟨b, off, cap, rfl, hb, hc⟩
  · go_enter Tryz.func29, Tryz.ntmps29
    go_wp2_with fail
    go_loop [6, 7, 8] (fun v6 v7 v8 => v6 = .int .i64 0 ∧ v7 = .int .i64 0 ∧ v8 = .int .i64 0) (fun _ _ _ => 0)
    case atStart => exact ⟨rfl, rfl, rfl⟩
    case round =>
      obtain ⟨rfl, rfl, rfl⟩ := hrel
      go_wp2
      go_ret2
      exact ⟨0, 0, rfl, rfl, rfl, rfl⟩
  · have ht' : (t.size : Int) ≤ 2000 := by omega
    have hlI : (L.length : Int) ≤ 20 := by omega
    have HC := Lib.hid hc
    have H0 := Lib.hid h0
    have Hl := Lib.hid hL
    clear hc h0 hL hb
    go_enter Tryz.func29, Tryz.ntmps29
    go_wp2_with fail
    go_loop [6, 7, 8] (fun v6 v7 v8 => TzIs t.size L v6 v7 v8) (fun _ _ v8 => L.length - (intOf v8).toNat)
    case atStart => exact ⟨0, 0, 0, rfl, rfl, rfl, Nat.zero_le _, rfl, rfl⟩
    case round =>
      obtain ⟨k, n, e, rfl, rfl, rfl, hk, hn, he⟩ := hrel
      by_cases hlt : k < L.length
      · obtain ⟨c0, c1⟩ := HC.out k hlt
        have hkI : (k : Int) < (L.length : Int) := by omega
        have hns := tkN_snoc t.size L k hlt
        have hes := tkE_snoc L k hlt
        have hbd := tkN_bd (T := t.size) (by omega) (L.take k) (fun x hx => H0.out x (List.mem_of_mem_take hx))
        have hel := tkE_le (L.take k)
        have hel2 : (L.take k).length ≤ k := List.length_take_le _ _
        have hm0 := H0.out L[k] (List.getElem_mem hlt)
        obtain ⟨m, hm⟩ : ∃ m, m = L[k].1 := ⟨_, rfl⟩
        obtain ⟨fl, hfl⟩ : ∃ fl, fl = L[k].2 := ⟨_, rfl⟩
        rw [← hm] at c0 hns hm0
        rw [← hfl] at c1 hes
        obtain ⟨own, ho⟩ : ∃ own, own = min m (t.size : Int) := ⟨_, rfl⟩
        rw [← ho] at hns
        have n0 : 0 ≤ n := by omega
        have n1 : n ≤ 2000 := by omega
        have e0 : 0 ≤ e := by omega
        have e1 : e ≤ 20 := by omega
        have o0 : 0 ≤ own := by omega
        have o1 : own ≤ 2000 := by omega
        have ho2 : min m (t.size : Int) = own := ho.symm
        have HS := Lib.hid (And.intro hn (And.intro he (And.intro hns (And.intro hes hlt))))
        clear hn he hns hes hbd hel hel2 hm hfl ho hlt hk hm0
        by_cases hn0 : n = 0
        · subst hn0
          by_cases ho0 : own = 0
          · subst ho0
            cases fl
            all_goals go_wp2
            all_goals
              refine ⟨⟨k + 1, _, _, rfl, rfl, by go_num, HS.out.2.2.2.2, ?_, ?_⟩, by have := HS.out.2.2.2.2; simp [intOf]; omega⟩
              · rw [HS.out.2.2.1, ← HS.out.1]
                rfl
              · rw [HS.out.2.2.2.1]
                have := HS.out.2.1
                simp
                omega
          · have hb1 : (own != 0) = true := by simpa using ho0
            have HN := Lib.hid ho0
            clear ho0
            cases fl
            all_goals go_wp2
            all_goals
              refine ⟨⟨k + 1, _, _, rfl, rfl, by go_num, HS.out.2.2.2.2, ?_, ?_⟩, by have := HS.out.2.2.2.2; simp [intOf]; omega⟩
              · rw [HS.out.2.2.1, ← HS.out.1]
                unfold tkStep
                rw [if_pos ⟨rfl, HN.out⟩]
              · rw [HS.out.2.2.2.1]
                have := HS.out.2.1
                simp
                omega
        · have hb1 : (n == 0) = false := by simpa using hn0
          have HN := Lib.hid hn0
          clear hn0
          by_cases hlo : own < n
          · have HL := Lib.hid hlo
            cases fl
            all_goals go_wp2
            all_goals
              refine ⟨⟨k + 1, _, _, rfl, rfl, by go_num, HS.out.2.2.2.2, ?_, ?_⟩, by have := HS.out.2.2.2.2; simp [intOf]; omega⟩
              · rw [HS.out.2.2.1, ← HS.out.1]
                unfold tkStep
                rw [if_neg (fun h => HN.out h.1), if_pos HL.out]
              · rw [HS.out.2.2.2.1]
                have := HS.out.2.1
                simp
                omega
          · have HL := Lib.hid hlo
            have hge : n ≤ own := by omega
            clear hlo
            cases fl
            all_goals go_wp2
            all_goals
              refine ⟨⟨k + 1, _, _, rfl, rfl, by go_num, HS.out.2.2.2.2, ?_, ?_⟩, by have := HS.out.2.2.2.2; simp [intOf]; omega⟩
              · rw [HS.out.2.2.1, ← HS.out.1]
                unfold tkStep
                rw [if_neg (fun h => HN.out h.1), if_neg HL.out]
              · rw [HS.out.2.2.2.1]
                have := HS.out.2.1
                simp
                omega
      · have hge : (L.length : Int) ≤ (k : Int) := by omega
        have hkL : k = L.length := by omega
        have HS := Lib.hid (And.intro hn (And.intro he hkL))
        clear hn he hkL hlt hk
        go_wp2
        go_ret2
        refine ⟨n, e, rfl, ?_, ?_, rfl⟩
        · rw [HS.out.1, HS.out.2.2, List.take_length]
        · rw [HS.out.2.1, HS.out.2.2, List.take_length]
end Go.Proofs.YtchmhdmapknmfaaGreatDoor
