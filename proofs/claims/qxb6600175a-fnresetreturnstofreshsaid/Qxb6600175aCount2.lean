/-
  The counts zzBytes_FnStretchSplitInvariant (30), zzBytes_FnResetReturnsToFresh (24), zzBytes_FnScriptStreamMatchesModel (7).
-/
import Derived.Test.Qxb6600175aCount
namespace Go.Proofs.Qxb6600175a
open Go.RowKit
set_option linter.unusedVariables false

set_option maxHeartbeats 4000000 in
theorem bytes30 (w : World) (ad0 : Option Addr) (n0 cap0 : Nat) (hm0 : n0 ≤ maxLen) (ad1 : Option Addr) (n1 cap1 : Nat) (hm1 : n1 ≤ maxLen) {R2 : Nat → Prop} (v2 : Value) (p2 : List (Value × List Int)) (h2 : RdC R2 w v2 p2) (x3 : Int) (x4 : Int) (x5 : Int) {R6 : Nat → Prop} (v6 : Value) (p6 : List (Value × List Int)) (h6 : RdC R6 w v6 p6) :
    Calls Try.prog 30 #[.slice ad0 n0 cap0, .slice ad1 n1 cap1, v2, .int .i64 x3, .int .i64 x4, .int .i64 x5, v6] w (BoolPost w (n0 + n1 + p2.length + tot p2 + p6.length + tot p6 ≤ 1048576)) := by
  unfold maxLen at hm0
  unfold maxLen at hm1
  obtain ⟨ad2, cap2, e2, hm2, hat2⟩ := h2.at_
  subst e2
  unfold maxLen at hm2
  have HA2 : Hid (∀ k (hk : k < p2.length), ∃ b off ad' cap' L, ad2 = some ⟨b, off, none⟩ ∧ w.cell? ⟨b, off + k, none⟩ = some (.slice ad' L cap') ∧ L ≤ 9223372036854775807 ∧ tot (p2.take (k + 1)) = tot (p2.take k) + L) := by
    intro k hk
    obtain ⟨b, off, ad', cap', e1, _, _, hc, _, hL⟩ := hat2 k hk
    unfold maxLen at hL
    exact ⟨b, off, ad', cap', _, e1, hc, by omega, tot_take p2 k hk⟩
  clear hat2 h2
  obtain ⟨ad6, cap6, e6, hm6, hat6⟩ := h6.at_
  subst e6
  unfold maxLen at hm6
  have HA6 : Hid (∀ k (hk : k < p6.length), ∃ b off ad' cap' L, ad6 = some ⟨b, off, none⟩ ∧ w.cell? ⟨b, off + k, none⟩ = some (.slice ad' L cap') ∧ L ≤ 9223372036854775807 ∧ tot (p6.take (k + 1)) = tot (p6.take k) + L) := by
    intro k hk
    obtain ⟨b, off, ad', cap', e1, _, _, hc, _, hL⟩ := hat6 k hk
    unfold maxLen at hL
    exact ⟨b, off, ad', cap', _, e1, hc, by omega, tot_take p6 k hk⟩
  clear hat6 h6
  by_cases hc1_0 : n0 ≤ 1048576
  case neg =>
    go_enter Try.func30, Try.ntmps30
    go_wp2
    go_ret
    exact BoolPost.no
  by_cases hc2_0 : n1 ≤ 1048576
  case neg =>
    go_enter Try.func30, Try.ntmps30
    go_wp2
    go_ret
    exact BoolPost.no
  by_cases hc2_1 : n0 + n1 ≤ 1048576
  case neg =>
    go_enter Try.func30, Try.ntmps30
    go_wp2
    go_ret
    exact BoolPost.no
  by_cases hc3_0 : p2.length ≤ 1048576
  case neg =>
    go_enter Try.func30, Try.ntmps30
    go_wp2
    go_ret
    exact BoolPost.no
  by_cases hc3_1 : n0 + n1 + p2.length ≤ 1048576
  case neg =>
    go_enter Try.func30, Try.ntmps30
    go_wp2
    go_ret
    exact BoolPost.no
  go_enter Try.func30, Try.ntmps30
  go_wp2
  go_loop [15, 16] (fun t i => ∃ (k : Nat), k ≤ p2.length ∧ n0 + n1 + p2.length + tot (p2.take k) ≤ 1048576 ∧ i = .int .i64 k ∧ t = .int .i64 (n0 + n1 + p2.length + tot (p2.take k) : Nat)) (fun _ i => p2.length - (intOf i).toNat)
  case atStart => exact ⟨0, Nat.zero_le _, by simp only [List.take_zero]; exact hc3_1, rfl, by simp only [List.take_zero, tot, List.map_nil, List.sum_nil]; go_num⟩
  case round =>
    obtain ⟨k2, hk2, hT2, rfl, rfl⟩ := hrel
    by_cases hlt2 : k2 < p2.length
    case pos =>
      obtain ⟨b, off, ad', cap', L, rfl, hc, hL, hts⟩ := HA2.out k2 hlt2
      have HT : Hid (tot (p2.take (k2 + 1)) = tot (p2.take k2) + L) := hts
      clear hts
      generalize tot (p2.take k2) = T at hT2 HT
      by_cases hL2 : L ≤ 1048576
      · by_cases hL3 : n0 + n1 + p2.length + T + L ≤ 1048576
        · go_wp2
          go_round
          case rel => exact ⟨k2 + 1, by omega, by rw [HT.out]; omega, by go_num, by rw [HT.out]; go_num⟩
          case measure => simp [intOf]; omega
        · go_wp2
          go_ret
          exact BoolPost.no
      · go_wp2
        go_ret
        exact BoolPost.no
    have HK2 : Hid (tot (p2.take k2) = tot p2) := by
      have : k2 = p2.length := by omega
      show _ = _
      rw [this, tot_all]
    generalize tot (p2.take k2) = T2 at hT2 HK2
    by_cases hc4_0 : p6.length ≤ 1048576
    case neg =>
      go_wp2
      go_ret
      exact BoolPost.no
    by_cases hc4_1 : n0 + n1 + p2.length + T2 + p6.length ≤ 1048576
    case neg =>
      go_wp2
      go_ret
      exact BoolPost.no
    go_wp2
    go_loop [15, 17] (fun t i => ∃ (k : Nat), k ≤ p6.length ∧ n0 + n1 + p2.length + T2 + p6.length + tot (p6.take k) ≤ 1048576 ∧ i = .int .i64 k ∧ t = .int .i64 (n0 + n1 + p2.length + T2 + p6.length + tot (p6.take k) : Nat)) (fun _ i => p6.length - (intOf i).toNat)
    case atStart => exact ⟨0, Nat.zero_le _, by simp only [List.take_zero]; exact hc4_1, rfl, by simp only [List.take_zero, tot, List.map_nil, List.sum_nil]; go_num⟩
    case round =>
      obtain ⟨k6, hk6, hT6, rfl, rfl⟩ := hrel
      by_cases hlt6 : k6 < p6.length
      case pos =>
        obtain ⟨b, off, ad', cap', L, rfl, hc, hL, hts⟩ := HA6.out k6 hlt6
        have HT : Hid (tot (p6.take (k6 + 1)) = tot (p6.take k6) + L) := hts
        clear hts
        generalize tot (p6.take k6) = T at hT6 HT
        by_cases hL2 : L ≤ 1048576
        · by_cases hL3 : n0 + n1 + p2.length + T2 + p6.length + T + L ≤ 1048576
          · go_wp2
            go_round
            case rel => exact ⟨k6 + 1, by omega, by rw [HT.out]; omega, by go_num, by rw [HT.out]; go_num⟩
            case measure => simp [intOf]; omega
          · go_wp2
            go_ret
            exact BoolPost.no
        · go_wp2
          go_ret
          exact BoolPost.no
      have HK6 : Hid (tot (p6.take k6) = tot p6) := by
        have : k6 = p6.length := by omega
        show _ = _
        rw [this, tot_all]
      generalize tot (p6.take k6) = T6 at hT6 HK6
      go_wp2
      go_ret
      refine BoolPost.yes ?_
      rw [← HK2.out]
      rw [← HK6.out]
      omega

set_option maxHeartbeats 4000000 in
theorem bytes24 (w : World) (ad0 : Option Addr) (n0 cap0 : Nat) (hm0 : n0 ≤ maxLen) (ad1 : Option Addr) (n1 cap1 : Nat) (hm1 : n1 ≤ maxLen) {R2 : Nat → Prop} (v2 : Value) (p2 : List (Value × List Int)) (h2 : RdC R2 w v2 p2) (x3 : Int) (x4 : Int) (x5 : Int) {R6 : Nat → Prop} (v6 : Value) (p6 : List (Value × List Int)) (h6 : RdC R6 w v6 p6) (ad7 : Option Addr) (n7 cap7 : Nat) (hm7 : n7 ≤ maxLen) :
    Calls Try.prog 24 #[.slice ad0 n0 cap0, .slice ad1 n1 cap1, v2, .int .i64 x3, .int .i64 x4, .int .i64 x5, v6, .slice ad7 n7 cap7] w (BoolPost w (n0 + n1 + p2.length + tot p2 + p6.length + tot p6 + n7 ≤ 1048576)) := by
  unfold maxLen at hm0
  unfold maxLen at hm1
  obtain ⟨ad2, cap2, e2, hm2, hat2⟩ := h2.at_
  subst e2
  unfold maxLen at hm2
  have HA2 : Hid (∀ k (hk : k < p2.length), ∃ b off ad' cap' L, ad2 = some ⟨b, off, none⟩ ∧ w.cell? ⟨b, off + k, none⟩ = some (.slice ad' L cap') ∧ L ≤ 9223372036854775807 ∧ tot (p2.take (k + 1)) = tot (p2.take k) + L) := by
    intro k hk
    obtain ⟨b, off, ad', cap', e1, _, _, hc, _, hL⟩ := hat2 k hk
    unfold maxLen at hL
    exact ⟨b, off, ad', cap', _, e1, hc, by omega, tot_take p2 k hk⟩
  clear hat2 h2
  obtain ⟨ad6, cap6, e6, hm6, hat6⟩ := h6.at_
  subst e6
  unfold maxLen at hm6
  have HA6 : Hid (∀ k (hk : k < p6.length), ∃ b off ad' cap' L, ad6 = some ⟨b, off, none⟩ ∧ w.cell? ⟨b, off + k, none⟩ = some (.slice ad' L cap') ∧ L ≤ 9223372036854775807 ∧ tot (p6.take (k + 1)) = tot (p6.take k) + L) := by
    intro k hk
    obtain ⟨b, off, ad', cap', e1, _, _, hc, _, hL⟩ := hat6 k hk
    unfold maxLen at hL
    exact ⟨b, off, ad', cap', _, e1, hc, by omega, tot_take p6 k hk⟩
  clear hat6 h6
  unfold maxLen at hm7
  by_cases hc1_0 : n0 ≤ 1048576
  case neg =>
    go_enter Try.func24, Try.ntmps24
    go_wp2
    go_ret
    exact BoolPost.no
  by_cases hc2_0 : n1 ≤ 1048576
  case neg =>
    go_enter Try.func24, Try.ntmps24
    go_wp2
    go_ret
    exact BoolPost.no
  by_cases hc2_1 : n0 + n1 ≤ 1048576
  case neg =>
    go_enter Try.func24, Try.ntmps24
    go_wp2
    go_ret
    exact BoolPost.no
  by_cases hc3_0 : p2.length ≤ 1048576
  case neg =>
    go_enter Try.func24, Try.ntmps24
    go_wp2
    go_ret
    exact BoolPost.no
  by_cases hc3_1 : n0 + n1 + p2.length ≤ 1048576
  case neg =>
    go_enter Try.func24, Try.ntmps24
    go_wp2
    go_ret
    exact BoolPost.no
  go_enter Try.func24, Try.ntmps24
  go_wp2
  go_loop [17, 18] (fun t i => ∃ (k : Nat), k ≤ p2.length ∧ n0 + n1 + p2.length + tot (p2.take k) ≤ 1048576 ∧ i = .int .i64 k ∧ t = .int .i64 (n0 + n1 + p2.length + tot (p2.take k) : Nat)) (fun _ i => p2.length - (intOf i).toNat)
  case atStart => exact ⟨0, Nat.zero_le _, by simp only [List.take_zero]; exact hc3_1, rfl, by simp only [List.take_zero, tot, List.map_nil, List.sum_nil]; go_num⟩
  case round =>
    obtain ⟨k2, hk2, hT2, rfl, rfl⟩ := hrel
    by_cases hlt2 : k2 < p2.length
    case pos =>
      obtain ⟨b, off, ad', cap', L, rfl, hc, hL, hts⟩ := HA2.out k2 hlt2
      have HT : Hid (tot (p2.take (k2 + 1)) = tot (p2.take k2) + L) := hts
      clear hts
      generalize tot (p2.take k2) = T at hT2 HT
      by_cases hL2 : L ≤ 1048576
      · by_cases hL3 : n0 + n1 + p2.length + T + L ≤ 1048576
        · go_wp2
          go_round
          case rel => exact ⟨k2 + 1, by omega, by rw [HT.out]; omega, by go_num, by rw [HT.out]; go_num⟩
          case measure => simp [intOf]; omega
        · go_wp2
          go_ret
          exact BoolPost.no
      · go_wp2
        go_ret
        exact BoolPost.no
    have HK2 : Hid (tot (p2.take k2) = tot p2) := by
      have : k2 = p2.length := by omega
      show _ = _
      rw [this, tot_all]
    generalize tot (p2.take k2) = T2 at hT2 HK2
    by_cases hc4_0 : p6.length ≤ 1048576
    case neg =>
      go_wp2
      go_ret
      exact BoolPost.no
    by_cases hc4_1 : n0 + n1 + p2.length + T2 + p6.length ≤ 1048576
    case neg =>
      go_wp2
      go_ret
      exact BoolPost.no
    go_wp2
    go_loop [17, 19] (fun t i => ∃ (k : Nat), k ≤ p6.length ∧ n0 + n1 + p2.length + T2 + p6.length + tot (p6.take k) ≤ 1048576 ∧ i = .int .i64 k ∧ t = .int .i64 (n0 + n1 + p2.length + T2 + p6.length + tot (p6.take k) : Nat)) (fun _ i => p6.length - (intOf i).toNat)
    case atStart => exact ⟨0, Nat.zero_le _, by simp only [List.take_zero]; exact hc4_1, rfl, by simp only [List.take_zero, tot, List.map_nil, List.sum_nil]; go_num⟩
    case round =>
      obtain ⟨k6, hk6, hT6, rfl, rfl⟩ := hrel
      by_cases hlt6 : k6 < p6.length
      case pos =>
        obtain ⟨b, off, ad', cap', L, rfl, hc, hL, hts⟩ := HA6.out k6 hlt6
        have HT : Hid (tot (p6.take (k6 + 1)) = tot (p6.take k6) + L) := hts
        clear hts
        generalize tot (p6.take k6) = T at hT6 HT
        by_cases hL2 : L ≤ 1048576
        · by_cases hL3 : n0 + n1 + p2.length + T2 + p6.length + T + L ≤ 1048576
          · go_wp2
            go_round
            case rel => exact ⟨k6 + 1, by omega, by rw [HT.out]; omega, by go_num, by rw [HT.out]; go_num⟩
            case measure => simp [intOf]; omega
          · go_wp2
            go_ret
            exact BoolPost.no
        · go_wp2
          go_ret
          exact BoolPost.no
      have HK6 : Hid (tot (p6.take k6) = tot p6) := by
        have : k6 = p6.length := by omega
        show _ = _
        rw [this, tot_all]
      generalize tot (p6.take k6) = T6 at hT6 HK6
      by_cases hc5_0 : n7 ≤ 1048576
      case neg =>
        go_wp2
        go_ret
        exact BoolPost.no
      by_cases hc5_1 : n0 + n1 + p2.length + T2 + p6.length + T6 + n7 ≤ 1048576
      case neg =>
        go_wp2
        go_ret
        exact BoolPost.no
      go_wp2
      go_ret
      refine BoolPost.yes ?_
      rw [← HK2.out]
      rw [← HK6.out]
      omega

set_option maxHeartbeats 4000000 in
theorem bytes7 (w : World) {R0 : Nat → Prop} (v0 : Value) (p0 : List (Value × List Int)) (h0 : RdC R0 w v0 p0) (ad1 : Option Addr) (n1 cap1 : Nat) (hm1 : n1 ≤ maxLen) :
    Calls Try.prog 7 #[v0, .slice ad1 n1 cap1] w (BoolPost w (p0.length + tot p0 + n1 ≤ 1048576)) := by
  obtain ⟨ad0, cap0, e0, hm0, hat0⟩ := h0.at_
  subst e0
  unfold maxLen at hm0
  have HA0 : Hid (∀ k (hk : k < p0.length), ∃ b off ad' cap' L, ad0 = some ⟨b, off, none⟩ ∧ w.cell? ⟨b, off + k, none⟩ = some (.slice ad' L cap') ∧ L ≤ 9223372036854775807 ∧ tot (p0.take (k + 1)) = tot (p0.take k) + L) := by
    intro k hk
    obtain ⟨b, off, ad', cap', e1, _, _, hc, _, hL⟩ := hat0 k hk
    unfold maxLen at hL
    exact ⟨b, off, ad', cap', _, e1, hc, by omega, tot_take p0 k hk⟩
  clear hat0 h0
  unfold maxLen at hm1
  by_cases hc1_0 : p0.length ≤ 1048576
  case neg =>
    go_enter Try.func7, Try.ntmps7
    go_wp2
    go_ret
    exact BoolPost.no
  go_enter Try.func7, Try.ntmps7
  go_wp2
  go_loop [5, 6] (fun t i => ∃ (k : Nat), k ≤ p0.length ∧ p0.length + tot (p0.take k) ≤ 1048576 ∧ i = .int .i64 k ∧ t = .int .i64 (p0.length + tot (p0.take k) : Nat)) (fun _ i => p0.length - (intOf i).toNat)
  case atStart => exact ⟨0, Nat.zero_le _, by simp only [List.take_zero]; exact hc1_0, rfl, by simp only [List.take_zero, tot, List.map_nil, List.sum_nil]; go_num⟩
  case round =>
    obtain ⟨k0, hk0, hT0, rfl, rfl⟩ := hrel
    by_cases hlt0 : k0 < p0.length
    case pos =>
      obtain ⟨b, off, ad', cap', L, rfl, hc, hL, hts⟩ := HA0.out k0 hlt0
      have HT : Hid (tot (p0.take (k0 + 1)) = tot (p0.take k0) + L) := hts
      clear hts
      generalize tot (p0.take k0) = T at hT0 HT
      by_cases hL2 : L ≤ 1048576
      · by_cases hL3 : p0.length + T + L ≤ 1048576
        · go_wp2
          go_round
          case rel => exact ⟨k0 + 1, by omega, by rw [HT.out]; omega, by go_num, by rw [HT.out]; go_num⟩
          case measure => simp [intOf]; omega
        · go_wp2
          go_ret
          exact BoolPost.no
      · go_wp2
        go_ret
        exact BoolPost.no
    have HK0 : Hid (tot (p0.take k0) = tot p0) := by
      have : k0 = p0.length := by omega
      show _ = _
      rw [this, tot_all]
    generalize tot (p0.take k0) = T0 at hT0 HK0
    by_cases hc2_0 : n1 ≤ 1048576
    case neg =>
      go_wp2
      go_ret
      exact BoolPost.no
    by_cases hc2_1 : p0.length + T0 + n1 ≤ 1048576
    case neg =>
      go_wp2
      go_ret
      exact BoolPost.no
    go_wp2
    go_ret
    refine BoolPost.yes ?_
    rw [← HK0.out]
    omega
end Go.Proofs.Qxb6600175a
