/-
  ZZNewFrameWriter (11) with longs.
-/
import Derived.Test.Qxb6600175aEq
import Derived.RegionTactic
import Derived.BigRegion
namespace Go.Proofs.Qxb6600175a
open Go.RowKit
set_option linter.unusedVariables false

/-- the cells of m longs that are nought -/
def lz : Nat → List Value
  | 0 => []
  | m + 1 => .int .i64 0 :: .slice none 0 0 :: lz m
theorem lz_length : ∀ m, (lz m).length = m * 2
  | 0 => rfl
  | m + 1 => by simp [lz, lz_length m]; omega
theorem lz_get : ∀ m i, (lz m)[i]? = if i < m * 2 then some (if i % 2 = 0 then .int .i64 0 else .slice none 0 0) else none
  | 0, i => by simp [lz]
  | m + 1, 0 => by simp [lz]
  | m + 1, 1 => by simp [lz]; omega
  | m + 1, i + 2 => by
    simp only [lz, List.getElem?_cons_succ]
    rw [lz_get m i]
    have e1 : (i + 2) % 2 = i % 2 := by omega
    rw [e1]
    by_cases h : i < m * 2
    · have h2 : i + 2 < (m + 1) * 2 := by omega
      rw [if_pos h, if_pos h2]
    · have h2 : ¬ i + 2 < (m + 1) * 2 := by omega
      rw [if_neg h, if_neg h2]
theorem lz_made (n : Nat) : (madeCells #[Value.int .i64 0, .slice none 0 0] (n * 2)).toList = lz n := by
  apply List.ext_getElem?
  intro j
  rw [lz_get]
  by_cases hj : j < n * 2
  · rw [if_pos hj]
    have : j % 2 = 0 ∨ j % 2 = 1 := by omega
    rcases this with h | h <;> simp [madeCells, hj, h]
  · rw [if_neg hj]; simp [madeCells, hj]
theorem lz_set (a : List (Int × Value × List Int)) (m : Nat) (p : Int × Value × List Int) : ((lcells a ++ lz (m + 1)).set (a.length * 2) (.int .i64 p.1)).set (a.length * 2 + 1) p.2.1 = lcells (a ++ [p]) ++ lz m := by
  have hl := lcells_length a
  rw [lcells_append, List.set_append_right _ _ (by omega), hl, Nat.sub_self, List.set_append_right _ _ (by omega), hl]
  simp [lz, lcells]

theorem zip_take {α β : Type} (a : List α) (b : List β) (k : Nat) (h1 : k < a.length) (h2 : k < b.length) : (a.zip b).take (k + 1) = (a.zip b).take k ++ [(a[k], b[k])] := by
  rw [List.take_succ_eq_append_getElem (by simp; omega)]
  simp

/-- what New leaves -/
def NewPost (w : World) (bv : Value) (ls : List (Int × Value × List Int)) (hd fr sz : Int) (e : Ending) (w' : World) : Prop :=
  ∃ lv w1, e = .returned (.pointer (some ⟨w1.heap.size, 0, none⟩)) ∧ w' = w1.alloc (.cells #[bv, lv, .int .i64 hd, .int .i64 fr, .int .i64 sz] 52) ∧ w1.ownsRow w.heap.size 50 2 lv ls.length (lcells ls) ∧ Below w.heap.size w w1

theorem step11 {w wr : World} {M k : Nat} {L : List (Int × Value × List Int)} {p : Int × Value × List Int} (hk : k < M) (hL : L.length = k)
    (hown : wr.ownsRow w.heap.size 50 2 (.slice (some ⟨w.heap.size, 0, none⟩) M M) M (lcells L ++ lz (M - k))) (hb : Below w.heap.size w wr) :
    ((wr.setCell ⟨w.heap.size, k * 2, none⟩ (.int .i64 p.1)).setCell ⟨w.heap.size, k * 2 + 1, none⟩ p.2.1).drew.ownsRow w.heap.size 50 2 (.slice (some ⟨w.heap.size, 0, none⟩) M M) M (lcells (L ++ [p]) ++ lz (M - (k + 1))) ∧
    Below w.heap.size w ((wr.setCell ⟨w.heap.size, k * 2, none⟩ (.int .i64 p.1)).setCell ⟨w.heap.size, k * 2 + 1, none⟩ p.2.1).drew := by
  have h1 := ((hown.stored (k * 2) (.int .i64 p.1)).1.stored (k * 2 + 1) p.2.1).1
  have e : M - k = (M - (k + 1)) + 1 := by omega
  subst hL
  rw [e, lz_set] at h1
  exact ⟨h1.drew, ((hb.setCell (by simp) _).setCell (by simp) _).drew⟩

theorem new_empty {w : World} {bv : Value} {hd fr sz : Int} {ls : List (Int × Value × List Int)} (h : ls = []) : NewPost w bv ls hd fr sz (.returned (.pointer (some ⟨w.heap.size, 0, none⟩))) (w.alloc (.cells #[bv, .slice none 0 0, .int .i64 hd, .int .i64 fr, .int .i64 sz] 52)) := by
  subst h
  exact ⟨_, w, rfl, rfl, World.ownsRow_nil _ _ _ _, Below.refl _ _⟩

set_option maxHeartbeats 2000000 in
theorem new_short {R R' : Nat → Prop} (w : World) (ad0 : Option Addr) (n0 cap0 : Nat) (v1 v2 : Value) (ats : List Int) (ps : List (Value × List Int)) (hd fr sz : Int) (h1 : Rd R w v1 (ats.map (Value.int .i64))) (h2 : RdC R' w v2 ps)
    (hl1 : ats.length ≤ 1099511627776) (hl2 : ps.length ≤ 1099511627776) (hcmp : ps.length < ats.length) :
    Calls Try.prog 11 #[.slice ad0 n0 cap0, v1, v2, .int .i64 hd, .int .i64 fr, .int .i64 sz] w (NewPost w (.slice ad0 n0 cap0) (ats.zip ps) hd fr sz) := by
  obtain ⟨ad1, cap1, e1, _, _, _, h14⟩ := h1
  rw [List.length_map] at e1
  obtain ⟨ad2, cap2, e2, _, hat2⟩ := h2.at_
  subst e1 e2
  have hzl : (ats.zip ps).length = ps.length := by simp; omega
  by_cases hz : ps.length = 0
  · have hzn : ats.zip ps = [] := List.eq_nil_of_length_eq_zero (by omega)
    have HZ : Hid (ats.zip ps = []) := hzn
    have hz0 : ¬ 0 < ps.length := by omega
    clear hzn hat2 h14
    go_enter Try.func11, Try.ntmps11
    go_wp2
    go_ret
    exact new_empty HZ.out
  have hpos : 0 < ps.length := by omega
  obtain ⟨i0, hi, hz0, hz1, hz2⟩ := info_parts Try.info50
  have HA : Hid (∀ k (hk1 : k < ats.length) (hk2 : k < ps.length), ∃ b off b' off' ad' n' cap', ad1 = some ⟨b, off, none⟩ ∧ ad2 = some ⟨b', off', none⟩ ∧ ps[k].1 = .slice ad' n' cap' ∧
      ∀ wr, Below w.heap.size w wr → wr.cell? ⟨b, off + k, none⟩ = some (.int .i64 ats[k]) ∧ wr.cell? ⟨b', off' + k, none⟩ = some (.slice ad' n' cap')) := by
    intro k hk1 hk2
    obtain ⟨b, off, e1, _, hc⟩ := h14 (by intro e; have := congrArg List.length e; rw [List.length_map] at this; simp at this; subst this; simp at hk1)
    obtain ⟨b', off', ad', cap', e2, _, e3, hc', _⟩ := hat2 k hk2
    exact ⟨b, off, b', off', ad', _, cap', e1, e2, e3, fun wr hb => ⟨cell_later hb (hc k _ (by simp [hk1])), cell_later hb hc'⟩⟩
  clear hat2 h14 h2
  have HZL : Hid ((ats.zip ps).length = ps.length) := hzl
  clear hzl
  have hm : ps.length ≤ maxLen := by unfold maxLen; omega
  go_enter Try.func11, Try.ntmps11
  go_wp2_with (at_make; refine wpList_make_full _ rfl _ _ 48 rfl w.heap.size 50 i0 (.agg #[.int .i64 0, .slice none 0 0]) 2 Try.underlying48 hi hz0 hz1 .i64 .i64 _ _ ps.length rfl rfl rfl rfl ?b2 ?b3 ?b4 ?_)
  case b2 => rw [hz2]; omega
  case b3 => exact hm
  case b4 => exact Nat.le_refl _
  intro w1 hown hgrow
  have hb1 : Below w.heap.size w w1 := (Below.refl _ _).grown hgrow (Nat.le_refl _) (fun k hk => by cases hk)
  have HO : Hid (w1.ownsRow w.heap.size 50 2 (.slice (some ⟨w.heap.size, 0, none⟩) ps.length ps.length) ps.length (lcells ((ats.zip ps).take 0) ++ lz (ps.length - 0))) := by
    rw [show (madeCells #[Value.int .i64 0, .slice none 0 0] (ps.length * 2)).toList = lz ps.length from lz_made _] at hown
    exact hown
  clear hown hgrow
  go_wp2
  go_loopw [15] (fun i wr => ∃ k : Nat, k ≤ ps.length ∧ i = .int .i64 k ∧ wr.ownsRow w.heap.size 50 2 (.slice (some ⟨w.heap.size, 0, none⟩) ps.length ps.length) ps.length (lcells ((ats.zip ps).take k) ++ lz (ps.length - k)) ∧ Below w.heap.size w wr) (fun i _ => ps.length - (intOf i).toNat)
  case atStart => exact ⟨0, Nat.zero_le _, rfl, HO.out, hb1⟩
  case round =>
    obtain ⟨k, hk, rfl, hown, hbel⟩ := hrel
    by_cases hlt : k < ps.length
    · have hk1 : k < ats.length := by omega
      have hk2 : k < ps.length := by omega
      obtain ⟨b, off, b', off', ad', n', cap', rfl, rfl, e3, hcs⟩ := HA.out k hk1 hk2
      obtain ⟨c1, c2⟩ := hcs wr hbel
      have hlz : (lcells ((ats.zip ps).take k) ++ lz (ps.length - k)).length = ps.length * 2 := by rw [hown.1]
      have hd0 : ∃ u, wr.cell? ⟨w.heap.size, k * 2, none⟩ = some u := by
        rw [hown.cellAt _ (by omega)]; exact ⟨_, List.getElem?_eq_getElem (by omega)⟩
      have hd1 : ∃ u, wr.cell? ⟨w.heap.size, k * 2 + 1, none⟩ = some u := by
        rw [hown.cellAt _ (by omega)]; exact ⟨_, List.getElem?_eq_getElem (by omega)⟩
      obtain ⟨u0, hd0⟩ := hd0
      obtain ⟨u1, hd1⟩ := hd1
      have hf0 := hown.frozenAt (k * 2)
      have hf1 := hown.frozenAt (k * 2 + 1)
      have hS := step11 (p := (ats[k], ps[k])) hlt (by have := HZL.out; simp; simp at this; omega) hown hbel
      rw [← zip_take ats ps k hk1 hk2] at hS
      simp only [] at hS
      rw [e3] at hS
      generalize ats[k] = A at c1 hS
      have HS : Hid (_ ∧ _) := hS
      clear hS hlz hown hcs e3 hbel
      go_wp2
      go_region
      all_goals
        go_wp2
        go_roundw
        case rel => exact ⟨k + 1, by omega, by go_num, HS.out.1, HS.out.2⟩
        case measure => simp [intOf]; omega
    · have hkm : k = ps.length := by omega
      have HK : Hid (k = ps.length) := hkm
      clear hkm
      go_wp2
      go_ret
      refine ⟨_, wr, rfl, rfl, ?_, hbel⟩
      rw [HK.out, Nat.sub_self, List.take_of_length_le (by rw [HZL.out]; exact Nat.le_refl _)] at hown
      rw [HZL.out]
      simpa [lz] using hown

set_option maxHeartbeats 2000000 in
theorem new_long {R R' : Nat → Prop} (w : World) (ad0 : Option Addr) (n0 cap0 : Nat) (v1 v2 : Value) (ats : List Int) (ps : List (Value × List Int)) (hd fr sz : Int) (h1 : Rd R w v1 (ats.map (Value.int .i64))) (h2 : RdC R' w v2 ps)
    (hl1 : ats.length ≤ 1099511627776) (hl2 : ps.length ≤ 1099511627776) (hcmp : ¬ ps.length < ats.length) :
    Calls Try.prog 11 #[.slice ad0 n0 cap0, v1, v2, .int .i64 hd, .int .i64 fr, .int .i64 sz] w (NewPost w (.slice ad0 n0 cap0) (ats.zip ps) hd fr sz) := by
  obtain ⟨ad1, cap1, e1, _, _, _, h14⟩ := h1
  rw [List.length_map] at e1
  obtain ⟨ad2, cap2, e2, _, hat2⟩ := h2.at_
  subst e1 e2
  have hzl : (ats.zip ps).length = ats.length := by simp; omega
  by_cases hz : ats.length = 0
  · have hzn : ats.zip ps = [] := List.eq_nil_of_length_eq_zero (by omega)
    have HZ : Hid (ats.zip ps = []) := hzn
    have hz0 : ¬ 0 < ats.length := by omega
    clear hzn hat2 h14
    go_enter Try.func11, Try.ntmps11
    go_wp2
    go_ret
    exact new_empty HZ.out
  have hpos : 0 < ats.length := by omega
  obtain ⟨i0, hi, hz0, hz1, hz2⟩ := info_parts Try.info50
  have HA : Hid (∀ k (hk1 : k < ats.length) (hk2 : k < ps.length), ∃ b off b' off' ad' n' cap', ad1 = some ⟨b, off, none⟩ ∧ ad2 = some ⟨b', off', none⟩ ∧ ps[k].1 = .slice ad' n' cap' ∧
      ∀ wr, Below w.heap.size w wr → wr.cell? ⟨b, off + k, none⟩ = some (.int .i64 ats[k]) ∧ wr.cell? ⟨b', off' + k, none⟩ = some (.slice ad' n' cap')) := by
    intro k hk1 hk2
    obtain ⟨b, off, e1, _, hc⟩ := h14 (by intro e; have := congrArg List.length e; rw [List.length_map] at this; simp at this; subst this; simp at hk1)
    obtain ⟨b', off', ad', cap', e2, _, e3, hc', _⟩ := hat2 k hk2
    exact ⟨b, off, b', off', ad', _, cap', e1, e2, e3, fun wr hb => ⟨cell_later hb (hc k _ (by simp [hk1])), cell_later hb hc'⟩⟩
  clear hat2 h14 h2
  have HZL : Hid ((ats.zip ps).length = ats.length) := hzl
  clear hzl
  have hm : ats.length ≤ maxLen := by unfold maxLen; omega
  go_enter Try.func11, Try.ntmps11
  go_wp2_with (at_make; refine wpList_make_full _ rfl _ _ 48 rfl w.heap.size 50 i0 (.agg #[.int .i64 0, .slice none 0 0]) 2 Try.underlying48 hi hz0 hz1 .i64 .i64 _ _ ats.length rfl rfl rfl rfl ?b2 ?b3 ?b4 ?_)
  case b2 => rw [hz2]; omega
  case b3 => exact hm
  case b4 => exact Nat.le_refl _
  intro w1 hown hgrow
  have hb1 : Below w.heap.size w w1 := (Below.refl _ _).grown hgrow (Nat.le_refl _) (fun k hk => by cases hk)
  have HO : Hid (w1.ownsRow w.heap.size 50 2 (.slice (some ⟨w.heap.size, 0, none⟩) ats.length ats.length) ats.length (lcells ((ats.zip ps).take 0) ++ lz (ats.length - 0))) := by
    rw [show (madeCells #[Value.int .i64 0, .slice none 0 0] (ats.length * 2)).toList = lz ats.length from lz_made _] at hown
    exact hown
  clear hown hgrow
  go_wp2
  go_loopw [15] (fun i wr => ∃ k : Nat, k ≤ ats.length ∧ i = .int .i64 k ∧ wr.ownsRow w.heap.size 50 2 (.slice (some ⟨w.heap.size, 0, none⟩) ats.length ats.length) ats.length (lcells ((ats.zip ps).take k) ++ lz (ats.length - k)) ∧ Below w.heap.size w wr) (fun i _ => ats.length - (intOf i).toNat)
  case atStart => exact ⟨0, Nat.zero_le _, rfl, HO.out, hb1⟩
  case round =>
    obtain ⟨k, hk, rfl, hown, hbel⟩ := hrel
    by_cases hlt : k < ats.length
    · have hk1 : k < ats.length := by omega
      have hk2 : k < ps.length := by omega
      obtain ⟨b, off, b', off', ad', n', cap', rfl, rfl, e3, hcs⟩ := HA.out k hk1 hk2
      obtain ⟨c1, c2⟩ := hcs wr hbel
      have hlz : (lcells ((ats.zip ps).take k) ++ lz (ats.length - k)).length = ats.length * 2 := by rw [hown.1]
      have hd0 : ∃ u, wr.cell? ⟨w.heap.size, k * 2, none⟩ = some u := by
        rw [hown.cellAt _ (by omega)]; exact ⟨_, List.getElem?_eq_getElem (by omega)⟩
      have hd1 : ∃ u, wr.cell? ⟨w.heap.size, k * 2 + 1, none⟩ = some u := by
        rw [hown.cellAt _ (by omega)]; exact ⟨_, List.getElem?_eq_getElem (by omega)⟩
      obtain ⟨u0, hd0⟩ := hd0
      obtain ⟨u1, hd1⟩ := hd1
      have hf0 := hown.frozenAt (k * 2)
      have hf1 := hown.frozenAt (k * 2 + 1)
      have hS := step11 (p := (ats[k], ps[k])) hlt (by have := HZL.out; simp; simp at this; omega) hown hbel
      rw [← zip_take ats ps k hk1 hk2] at hS
      simp only [] at hS
      rw [e3] at hS
      generalize ats[k] = A at c1 hS
      have HS : Hid (_ ∧ _) := hS
      clear hS hlz hown hcs e3 hbel
      go_wp2
      go_region
      all_goals
        go_wp2
        go_roundw
        case rel => exact ⟨k + 1, by omega, by go_num, HS.out.1, HS.out.2⟩
        case measure => simp [intOf]; omega
    · have hkm : k = ats.length := by omega
      have HK : Hid (k = ats.length) := hkm
      clear hkm
      go_wp2
      go_ret
      refine ⟨_, wr, rfl, rfl, ?_, hbel⟩
      rw [HK.out, Nat.sub_self, List.take_of_length_le (by rw [HZL.out]; exact Nat.le_refl _)] at hown
      rw [HZL.out]
      simpa [lz] using hown

theorem new_any {R R' : Nat → Prop} (w : World) (ad0 : Option Addr) (n0 cap0 : Nat) (v1 v2 : Value) (ats : List Int) (ps : List (Value × List Int)) (hd fr sz : Int) (h1 : Rd R w v1 (ats.map (Value.int .i64))) (h2 : RdC R' w v2 ps)
    (hl1 : ats.length ≤ 1099511627776) (hl2 : ps.length ≤ 1099511627776) :
    Calls Try.prog 11 #[.slice ad0 n0 cap0, v1, v2, .int .i64 hd, .int .i64 fr, .int .i64 sz] w (NewPost w (.slice ad0 n0 cap0) (ats.zip ps) hd fr sz) := by
  by_cases h : ps.length < ats.length
  · exact new_short w ad0 n0 cap0 v1 v2 ats ps hd fr sz h1 h2 hl1 hl2 h
  · exact new_long w ad0 n0 cap0 v1 v2 ats ps hd fr sz h1 h2 hl1 hl2 h
end Go.Proofs.Qxb6600175a
