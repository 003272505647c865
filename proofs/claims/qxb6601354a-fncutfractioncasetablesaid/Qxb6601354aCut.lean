/-
  strings.CutPrefix at the point (17, 18, 19), cutFraction (16), ZZcutFraction (13).
-/
import Derived.Test.Qxb6601354aWalks
namespace Go.Proofs.Qxb6601354a
open Go.RowKit
set_option linter.unusedVariables false

/-- it begins with a point -/
def dot (s : ByteArray) : Bool := (s.extract 0 1).toList == [46]
theorem dot_iff {s : ByteArray} (h : 0 < s.size) : dot s = (s[0] == 46) := by
  unfold dot
  rw [Lib.extract_toList]
  cases e : s.data.toList with
  | nil => rw [Lib.size_eq, e] at h; simp at h
  | cons c l =>
    have e0 : s[0] = c := by rw [get_data]; simp [e]
    rw [e0]
    simp
theorem dot_empty {s : ByteArray} (h : ¬ 0 < s.size) : dot s = false := by
  unfold dot
  rw [Lib.extract_toList]
  have e : s.data.toList = [] := List.eq_nil_of_length_eq_zero (by rw [← Lib.size_eq]; omega)
  rw [e]; rfl

theorem has19 (s : ByteArray) (w : World) (hs : s.size ≤ maxLen) : Calls Try.prog 19 #[.string s, .string ⟨#[46]⟩] w fun e w' => e = .returned (.bool (dot s)) ∧ w' = w := by
  unfold maxLen at hs
  by_cases h : 0 < s.size
  · go_enter Try.func19, Try.ntmps19
    go_wp2
    go_ret
    exact ⟨rfl, rfl⟩
  · rw [dot_empty h]
    have hd : decide ((1 : Int) ≤ (s.size : Int)) = false := by simp; omega
    go_enter Try.func19, Try.ntmps19
    go_wp2
    go_ret
    exact ⟨rfl, rfl⟩
theorem cut18_no (s : ByteArray) (w : World) (hs : s.size ≤ maxLen) (h : dot s = false) : Calls Try.prog 18 #[.string s, .string ⟨#[46]⟩] w fun e w' => e = .returned (.tuple #[.string s, .bool false]) ∧ w' = w := by
  have H : Hid (dot s = false) := h
  clear h
  go_enter Try.func18, Try.ntmps18
  go_wp2_with fail
  refine (has19 s w hs).mono ?_
  rintro e w1 ⟨rfl, hw⟩
  obtain rfl : w = w1 := hw.symm
  clear hw
  rw [H.out]
  go_wp2
  go_ret2
  exact ⟨rfl, rfl⟩
theorem cut18_yes (s : ByteArray) (w : World) (hs : s.size ≤ maxLen) (h : dot s = true) : Calls Try.prog 18 #[.string s, .string ⟨#[46]⟩] w fun e w' => e = .returned (.tuple #[.string (s.extract 1 s.size), .bool true]) ∧ w' = w := by
  have hp : 0 < s.size := by
    rcases Nat.lt_or_ge 0 s.size with x | x
    · exact x
    · rw [dot_empty (by omega)] at h; cases h
  have H : Hid (dot s = true) := h
  clear h
  go_enter Try.func18, Try.ntmps18
  go_wp2_with fail
  refine (has19 s w hs).mono ?_
  rintro e w1 ⟨rfl, hw⟩
  obtain rfl : w = w1 := hw.symm
  clear hw
  rw [H.out]
  unfold maxLen at hs
  go_wp2
  go_ret2
  exact ⟨rfl, rfl⟩
theorem cut17_no (s : ByteArray) (w : World) (hs : s.size ≤ maxLen) (h : dot s = false) : Calls Try.prog 17 #[.string s, .string ⟨#[46]⟩] w fun e w' => e = .returned (.tuple #[.string s, .bool false]) ∧ w' = w := by
  have H : Hid (dot s = false) := h
  clear h
  go_enter Try.func17, Try.ntmps17
  go_wp2_with fail
  refine (cut18_no s w hs H.out).mono ?_
  rintro e w1 ⟨rfl, hw⟩
  obtain rfl : w = w1 := hw.symm
  clear hw
  go_wp2
  go_ret2
  exact ⟨rfl, rfl⟩
theorem cut17_yes (s : ByteArray) (w : World) (hs : s.size ≤ maxLen) (h : dot s = true) : Calls Try.prog 17 #[.string s, .string ⟨#[46]⟩] w fun e w' => e = .returned (.tuple #[.string (s.extract 1 s.size), .bool true]) ∧ w' = w := by
  have H : Hid (dot s = true) := h
  clear h
  go_enter Try.func17, Try.ntmps17
  go_wp2_with fail
  refine (cut18_yes s w hs H.out).mono ?_
  rintro e w1 ⟨rfl, hw⟩
  obtain rfl : w = w1 := hw.symm
  clear hw
  go_wp2
  go_ret2
  exact ⟨rfl, rfl⟩

/-- what cutFraction leaves: no point: nothing, the whole, yes; a point: the split of what follows, and whether there is a digit -/
def CutPost (s : ByteArray) (w : World) (e : Ending) (w' : World) : Prop :=
  (dot s = false ∧ e = .returned (.tuple #[.string ⟨#[]⟩, .string s, .bool true]) ∧ w' = w) ∨
  (dot s = true ∧ ∃ d r : ByteArray, e = .returned (.tuple #[.string d, .string r, .bool (!d.toList.isEmpty)]) ∧ d ++ r = s.extract 1 s.size ∧ alld d ∧ nod r ∧ d.size ≤ s.size ∧ r.size ≤ s.size ∧ ∃ n, w' = w.drewN n)

theorem cut16 (s : ByteArray) (w : World) (hs : s.size ≤ maxLen) : Calls Try.prog 16 #[.string s] w (CutPost s w) := by
  cases hd : dot s with
  | false =>
    have H : Hid (dot s = false) := hd
    clear hd
    go_enter Try.func16, Try.ntmps16
    go_wp2_with fail
    refine (cut17_no s w hs H.out).mono ?_
    rintro e w1 ⟨rfl, hw⟩
    obtain rfl : w = w1 := hw.symm
    clear hw
    go_wp2
    go_ret3
    exact .inl ⟨H.out, rfl, rfl⟩
  | true =>
    have H : Hid (dot s = true) := hd
    clear hd
    go_enter Try.func16, Try.ntmps16
    go_wp2_with fail
    refine (cut17_yes s w hs H.out).mono ?_
    rintro e w1 ⟨rfl, hw⟩
    obtain rfl : w = w1 := hw.symm
    clear hw
    have hes : (s.extract 1 s.size).size ≤ s.size := by rw [ByteArray.size_extract]; omega
    go_wp2_with fail
    refine (lead15 (s.extract 1 s.size) w (by omega)).mono ?_
    rintro e w1 ⟨d, r, rfl, hcat, hdd, hr, hds, hrs, n, hw⟩
    have HC : Hid (d ++ r = s.extract 1 s.size ∧ alld d ∧ nod r ∧ d.size ≤ s.size ∧ r.size ≤ s.size ∧ ∃ n, w1 = w.drewN n) := ⟨hcat, hdd, hr, by omega, by omega, n, hw⟩
    clear hcat hdd hr hds hrs hw hes
    go_wp2
    go_ret3
    exact .inr ⟨H.out, d, r, rfl, HC.out⟩

theorem cut13 (s : ByteArray) (w : World) (hs : s.size ≤ maxLen) : Calls Try.prog 13 #[.string s] w (CutPost s w) := by
  go_enter Try.func13, Try.ntmps13
  go_wp2_with fail
  refine (cut16 s w hs).mono ?_
  rintro e w1 (⟨h1, rfl, h2⟩ | ⟨h1, d, r, rfl, h2⟩)
  · have H : Hid (_ ∧ _) := ⟨h1, h2⟩
    clear h1 h2
    go_wp2
    go_ret3
    exact .inl ⟨H.out.1, rfl, H.out.2⟩
  · have H : Hid (_ ∧ _) := ⟨h1, h2⟩
    clear h1 h2
    go_wp2
    go_ret3
    exact .inr ⟨H.out.1, d, r, rfl, H.out.2⟩
end Go.Proofs.Qxb6601354a
