/-
  The laws' walks: 3 and 4.
-/
import Derived.Test.Qxb6601354aSplit
namespace Go.Proofs.Qxb6601354a
open Go.RowKit
set_option linter.unusedVariables false

/-- it answers some Bool and turns nothing -/
def SomeBool (w : World) (e : Ending) (w' : World) : Prop := ∃ r : Bool, e = .returned (.bool r) ∧ w' = w
theorem SomeBool.mk {w : World} (r : Bool) : SomeBool w (.returned (.bool r)) w := ⟨r, rfl, rfl⟩

theorem empty_no {s : ByteArray} (h : 0 < s.size) : s.toList.isEmpty = false := by
  rw [empty_iff]; exact decide_eq_false (by omega)
theorem empty_yes {s : ByteArray} (h : ¬ 0 < s.size) : s.toList.isEmpty = true := by
  rw [empty_iff]; exact decide_eq_true (by omega)
/-- pre's plain law -/
theorem pre_plain {d t g1 g2 t1 t2 : ByteArray} (hd : alld d) (h1 : g1 ++ g2 = d ++ t ∧ alld g1 ∧ nod g2) (h2 : t1 ++ t2 = t ∧ alld t1 ∧ nod t2) : g1 = d ++ t1 ∧ g2 = t2 := by
  refine split_unique ?_ h1.2.1 (alld_append hd h2.2.1) h1.2.2 h2.2.2
  rw [h1.1, ← h2.1]
  apply bytes_ext
  simp only [ByteArray.data_append, Array.toList_append, List.append_assoc]

theorem bytes7 (s : ByteArray) (w : World) : Calls Try.prog 7 #[.string s] w (SomeBool w) := by
  go_enter Try.func7, Try.ntmps7
  go_wp2
  all_goals
    go_ret
    exact SomeBool.mk _
theorem bytes12 (s : ByteArray) (w : World) : Calls Try.prog 12 #[.string s] w (SomeBool w) := by
  go_enter Try.func12, Try.ntmps12
  go_wp2
  all_goals
    go_ret
    exact SomeBool.mk _
theorem bytes11 (s t : ByteArray) (w : World) : Calls Try.prog 11 #[.string s, .string t] w (SomeBool w) := by
  go_enter Try.func11, Try.ntmps11
  go_wp2
  all_goals
    go_ret
    exact SomeBool.mk _
theorem bytes14 (s t : ByteArray) (w : World) : Calls Try.prog 14 #[.string s, .string t] w (SomeBool w) := by
  go_enter Try.func14, Try.ntmps14
  go_wp2
  all_goals
    go_ret
    exact SomeBool.mk _

set_option maxHeartbeats 1000000 in
theorem max_walk (s : ByteArray) (w0 : s.size ≤ maxLen) (w : World) :
    Calls Try.prog 3 #[.string s] w fun e w' => e = .returned (.bool true) ∧ Grown w w' := by
  go_enter Try.func3, Try.ntmps3
  go_wp2_with fail
  refine (bytes7 s w).mono ?_
  rintro e w1 ⟨r, rfl, hw⟩
  obtain rfl : w = w1 := hw.symm
  clear hw
  cases r with
  | false =>
    go_wp2
    go_ret
    exact ⟨rfl, Grown.refl _⟩
  | true =>
    by_cases h : s.size ≤ 1048576
    case neg =>
      go_wp2
      go_ret
      exact ⟨rfl, Grown.refl _⟩
    go_wp2_with fail
    refine (lead8 s w w0).mono ?_
    rintro e w1 ⟨d, r, rfl, hcat, hd, hr, hds, hrs, n, hw⟩
    have HG : Hid (Grown w w1) := grown_drewN hw
    have HD : Hid (alld d) := hd
    have HR : Hid (nod r) := hr
    clear hw hd hr
    have hadd : d.size + r.size ≤ 9223372036854775807 := by omega
    go_wp2_with fail
    refine (allDigits_any d w1 (by unfold maxLen; omega)).mono ?_
    rintro e w2 ⟨rr, rfl, hw, hr⟩
    obtain rfl : w1 = w2 := hw.symm
    clear hw
    obtain rfl : rr = true := hr.2 HD.out
    clear hr
    by_cases hlt : 0 < r.size
    · have he : r.toList.isEmpty = false := empty_no hlt
      have H0 : Hid (∀ h : 0 < r.size, isd r[0] = false) := HR.out
      go_wp2_with fail
      refine (isDigit_any r[0] w1).mono ?_
      rintro e w2 ⟨rfl, hw⟩
      obtain rfl : w1 = w2 := hw.symm
      clear hw
      rw [H0.out hlt]
      go_wp2
      go_ret
      exact ⟨rfl, HG.out⟩
    · have he : r.toList.isEmpty = true := empty_yes hlt
      go_wp2
      go_ret
      exact ⟨rfl, HG.out⟩

set_option maxHeartbeats 1000000 in
theorem pre_walk (d t : ByteArray) (w0 : d.size ≤ maxLen) (wt : t.size ≤ maxLen) (w : World) :
    Calls Try.prog 4 #[.string d, .string t] w fun e w' => e = .returned (.bool true) ∧ Grown w w' := by
  go_enter Try.func4, Try.ntmps4
  go_wp2_with fail
  refine (bytes11 d t w).mono ?_
  rintro e w1 ⟨r, rfl, hw⟩
  obtain rfl : w = w1 := hw.symm
  clear hw
  cases r with
  | false =>
    go_wp2
    go_ret
    exact ⟨rfl, Grown.refl _⟩
  | true =>
    by_cases h1 : d.size ≤ 524288
    case neg =>
      go_wp2
      go_ret
      exact ⟨rfl, Grown.refl _⟩
    by_cases h2 : t.size ≤ 524288
    case neg =>
      go_wp2
      go_ret
      exact ⟨rfl, Grown.refl _⟩
    go_wp2_with fail
    refine (allDigits_any d w w0).mono ?_
    rintro e w2 ⟨rr, rfl, hw, hr⟩
    obtain rfl : w = w2 := hw.symm
    clear hw
    cases rr with
    | false =>
      go_wp2
      go_ret
      exact ⟨rfl, Grown.refl _⟩
    | true =>
      have HD : Hid (alld d) := hr.1 rfl
      clear hr
      have hadd : d.size + t.size ≤ 9223372036854775807 := by omega
      go_wp2_with fail
      refine (lead8 (d ++ t) w (by rw [ByteArray.size_append]; unfold maxLen; omega)).mono ?_
      rintro e w1 ⟨g1, g2, rfl, hcat, hd, hr, hds, hrs, n, hw⟩
      have HG : Hid (Grown w w1) := grown_drewN hw
      have H1 : Hid (g1 ++ g2 = d ++ t ∧ alld g1 ∧ nod g2) := ⟨hcat, hd, hr⟩
      clear hw hd hr hcat hds hrs
      go_wp2_with fail
      refine (lead8 t w1 wt).mono ?_
      rintro e w2 ⟨t1, t2, rfl, hcat, hd, hr, hds, hrs, n2, hw⟩
      obtain ⟨e1, e2⟩ := pre_plain HD.out H1.out ⟨hcat, hd, hr⟩
      subst e1 e2
      have HG2 : Hid (Grown w w2) := by
        have a := HG.out
        have b := grown_drewN hw
        exact ⟨World.keptBut_trans a.1 b.1, fun x => (b.2.1 x).trans (a.2.1 x), Nat.le_trans a.2.2 b.2.2⟩
      have hadd2 : d.size + t1.size ≤ 9223372036854775807 := by omega
      clear hw hcat hd hr H1 HG
      go_wp2
      go_ret
      exact ⟨rfl, HG2.out⟩
end Go.Proofs.Qxb6601354a
