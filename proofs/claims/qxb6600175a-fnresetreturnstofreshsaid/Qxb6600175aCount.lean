/-
  zzChunkBytes (8) and zzBytes_FnBeginHeaderSurvivesStretches (31): counts; nothing turns.
-/
import Derived.Test.Qxb6600175aCloneC
namespace Go.Proofs.Qxb6600175a
open Go.RowKit
set_option linter.unusedVariables false

theorem RdC.at_ {R : Nat → Prop} {w : World} {v : Value} {ps : List (Value × List Int)} (h : RdC R w v ps) : ∃ ad cap, v = .slice ad ps.length cap ∧ ps.length ≤ maxLen ∧
    ∀ k (hk : k < ps.length), ∃ b off ad' cap', ad = some ⟨b, off, none⟩ ∧ R b ∧ ps[k].1 = .slice ad' ps[k].2.length cap' ∧ w.cell? ⟨b, off + k, none⟩ = some (.slice ad' ps[k].2.length cap') ∧ Rd R w (.slice ad' ps[k].2.length cap') (bcells ps[k].2) ∧ ps[k].2.length ≤ maxLen := by
  obtain ⟨⟨ad, cap, rfl, h1, h2, h3, h4⟩, h5⟩ := h
  rw [List.length_map] at h1
  refine ⟨ad, cap, by rw [List.length_map], by omega, fun k hk => ?_⟩
  obtain ⟨b, off, e1, hR, hc⟩ := h4 (by intro e; have := congrArg List.length e; rw [List.length_map] at this; simp at this; subst this; simp at hk)
  have hmem : ps[k] ∈ ps := List.getElem_mem hk
  have hrd := h5 _ hmem
  obtain ⟨ad', cap', e2, r1, r2, _⟩ := id hrd
  rw [bcells_length] at e2 r1
  refine ⟨b, off, ad', cap', e1, hR, e2, ?_, by rw [← e2]; exact hrd, by omega⟩
  rw [← e2]
  exact hc k _ (by simp [hk])

/-- the total of the lengths -/
def tot (ps : List (Value × List Int)) : Nat := (ps.map (·.2.length)).sum
theorem tot_take (ps : List (Value × List Int)) (k : Nat) (h : k < ps.length) : tot (ps.take (k + 1)) = tot (ps.take k) + ps[k].2.length := by
  unfold tot; rw [List.take_succ_eq_append_getElem h, List.map_append, List.sum_append]; simp
theorem tot_all (ps : List (Value × List Int)) : tot (ps.take ps.length) = tot ps := by rw [List.take_length]
theorem tot_mem {ps : List (Value × List Int)} {p : Value × List Int} (h : p ∈ ps) : p.2.length ≤ tot ps := by
  induction ps with
  | nil => cases h
  | cons q qs ih =>
    unfold tot at ih ⊢
    simp only [List.map_cons, List.sum_cons]
    rcases List.mem_cons.1 h with rfl | h
    · omega
    · have := ih h; omega
theorem tot_congr {ps qs : List (Value × List Int)} (h : qs.map (·.2) = ps.map (·.2)) : tot qs = tot ps := by
  unfold tot
  have e : ∀ l : List (Value × List Int), l.map (·.2.length) = (l.map (·.2)).map List.length := fun l => by simp
  rw [e, e, h]

/-- it answers a Bool and turns nothing; where it says yes, p holds -/
def BoolPost (w : World) (p : Prop) (e : Ending) (w' : World) : Prop := ∃ r : Bool, e = .returned (.bool r) ∧ w' = w ∧ (r = true → p)
theorem BoolPost.no {w : World} {p : Prop} : BoolPost w p (.returned (.bool false)) w := ⟨false, rfl, rfl, fun h => by cases h⟩
theorem BoolPost.yes {w : World} {p : Prop} (h : p) : BoolPost w p (.returned (.bool true)) w := ⟨true, rfl, rfl, fun _ => h⟩
/-- it answers an int and turns nothing -/
def IntPost (w : World) (e : Ending) (w' : World) : Prop := ∃ r : Int, e = .returned (.int .i64 r) ∧ w' = w
theorem IntPost.mk {w : World} (r : Int) : IntPost w (.returned (.int .i64 r)) w := ⟨r, rfl, rfl⟩

set_option maxHeartbeats 1000000 in
theorem chunk_any {R : Nat → Prop} (v : Value) (ps : List (Value × List Int)) (w : World) (h : RdC R w v ps) :
    Calls Try.prog 8 #[v, .int .i64 1048576] w (IntPost w) := by
  obtain ⟨ad, cap, rfl, hm, hat⟩ := h.at_
  unfold maxLen at hm
  have HA : Hid (∀ k (hk : k < ps.length), ∃ b off ad' cap', ad = some ⟨b, off, none⟩ ∧ R b ∧ ps[k].1 = .slice ad' ps[k].2.length cap' ∧ w.cell? ⟨b, off + k, none⟩ = some (.slice ad' ps[k].2.length cap') ∧ Rd R w (.slice ad' ps[k].2.length cap') (bcells ps[k].2) ∧ ps[k].2.length ≤ maxLen) := hat
  clear hat h
  by_cases h1 : ps.length ≤ 1048576
  case neg =>
    go_enter Try.func8, Try.ntmps8
    go_wp2
    go_ret
    exact IntPost.mk _
  by_cases h2 : 24 * ps.length ≤ 1048576
  case neg =>
    go_enter Try.func8, Try.ntmps8
    go_wp2
    go_ret
    exact IntPost.mk _
  go_enter Try.func8, Try.ntmps8
  go_wp2
  go_loop [5, 6] (fun t i => ∃ (k : Nat) (x : Int), k ≤ ps.length ∧ i = .int .i64 k ∧ t = .int .i64 x) (fun _ i => ps.length - (intOf i).toNat)
  case atStart => exact ⟨0, _, Nat.zero_le _, rfl, rfl⟩
  case round =>
    obtain ⟨k, x, hk, rfl, rfl⟩ := hrel
    by_cases hlt : k < ps.length
    · obtain ⟨b, off, ad', cap', rfl, _, _, hc, _, _⟩ := HA.out k hlt
      generalize ps[k].2.length = L at hc
      go_wp2
      · go_ret
        exact IntPost.mk _
      · go_round
        case rel => exact ⟨k + 1, _, by omega, by go_num, rfl⟩
        case measure => simp [intOf]; omega
    · go_wp2
      go_ret
      exact IntPost.mk _

set_option maxHeartbeats 2000000 in
theorem bytes31 {R R' : Nat → Prop} (v0 v4 : Value) (x1 x2 x3 : Int) (bs : List Int) (ps : List (Value × List Int)) (w : World) (h0 : Rd R w v0 (bcells bs)) (h : RdC R' w v4 ps) :
    Calls Try.prog 31 #[v0, .int .i64 x1, .int .i64 x2, .int .i64 x3, v4] w (BoolPost w (bs.length + ps.length + tot ps ≤ 1048576)) := by
  obtain ⟨ad0, cap0, rfl, g1, g2, _⟩ := h0
  rw [bcells_length] at g1 ⊢
  have hm0 : bs.length ≤ maxLen := by omega
  unfold maxLen at hm0
  obtain ⟨ad, cap, rfl, hm, hat⟩ := h.at_
  unfold maxLen at hm
  have HA : Hid (∀ k (hk : k < ps.length), ∃ b off ad' cap', ad = some ⟨b, off, none⟩ ∧ R' b ∧ ps[k].1 = .slice ad' ps[k].2.length cap' ∧ w.cell? ⟨b, off + k, none⟩ = some (.slice ad' ps[k].2.length cap') ∧ Rd R' w (.slice ad' ps[k].2.length cap') (bcells ps[k].2) ∧ ps[k].2.length ≤ maxLen) := hat
  clear hat h g1 g2
  by_cases h1 : bs.length ≤ 1048576
  case neg =>
    go_enter Try.func31, Try.ntmps31
    go_wp2
    go_ret
    exact BoolPost.no
  by_cases h2 : ps.length ≤ 1048576
  case neg =>
    go_enter Try.func31, Try.ntmps31
    go_wp2
    go_ret
    exact BoolPost.no
  by_cases h3 : bs.length + ps.length ≤ 1048576
  case neg =>
    go_enter Try.func31, Try.ntmps31
    go_wp2
    go_ret
    exact BoolPost.no
  go_enter Try.func31, Try.ntmps31
  go_wp2
  go_loop [11, 12] (fun t i => ∃ (k : Nat), k ≤ ps.length ∧ bs.length + ps.length + tot (ps.take k) ≤ 1048576 ∧ i = .int .i64 k ∧ t = .int .i64 (bs.length + ps.length + tot (ps.take k) : Nat)) (fun _ i => ps.length - (intOf i).toNat)
  case atStart => exact ⟨0, Nat.zero_le _, by simpa [tot] using h3, rfl, by simp [tot]⟩
  case round =>
    obtain ⟨k, hk, hT, rfl, rfl⟩ := hrel
    by_cases hlt : k < ps.length
    · obtain ⟨b, off, ad', cap', rfl, _, _, hc, _, hL⟩ := HA.out k hlt
      have hts := tot_take ps k hlt
      have HT : Hid (tot (ps.take (k + 1)) = tot (ps.take k) + ps[k].2.length) := hts
      clear hts
      unfold maxLen at hL
      generalize ps[k].2.length = L at hc hL HT
      generalize tot (ps.take k) = T at hT HT
      by_cases hL2 : L ≤ 1048576
      · by_cases hL3 : bs.length + ps.length + T + L ≤ 1048576
        · go_wp2
          go_round
          case rel => exact ⟨k + 1, by omega, by rw [HT.out]; omega, by go_num, by rw [HT.out]; go_num⟩
          case measure => simp [intOf]; omega
        · go_wp2
          go_ret
          exact BoolPost.no
      · go_wp2
        go_ret
        exact BoolPost.no
    · have hkn : k = ps.length := by omega
      have HK : Hid (k = ps.length) := hkn
      clear hkn
      go_wp2
      go_ret
      refine BoolPost.yes ?_
      rw [HK.out, tot_all] at hT
      exact hT
end Go.Proofs.Qxb6600175a
