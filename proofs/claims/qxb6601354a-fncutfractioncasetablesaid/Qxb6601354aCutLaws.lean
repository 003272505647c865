/-
  The laws' walks: 5 and 6.
-/
import Derived.Test.Qxb6601354aCut
namespace Go.Proofs.Qxb6601354a
open Go.RowKit
set_option linter.unusedVariables false

theorem byte_ne {c : UInt8} (h : (c == 46) = false) : ((c.toNat : Int) != 46) = true := by
  have h' : c ≠ 46 := by simpa using h
  rw [bne_iff_ne]
  intro e
  apply h'
  apply UInt8.toNat_inj.1
  have : (46 : UInt8).toNat = 46 := rfl
  omega
theorem byte_eq {c : UInt8} (h : (c == 46) = true) : ((c.toNat : Int) != 46) = false := by
  have h' : c = 46 := by simpa using h
  subst h'
  rfl

/-- a digit follows just where the digits are not empty -/
theorem tab_plain {d r a : ByteArray} (e : d ++ r = a) (h1 : alld d) (h2 : nod r) (h : 0 < a.size) : isd a[0] = !d.toList.isEmpty := by
  subst e
  by_cases hd : 0 < d.size
  · rw [empty_no hd]
    have e0 : (d ++ r)[0] = d[0] := by rw [ByteArray.getElem_append_left hd]
    rw [e0]
    exact h1 0 hd
  · rw [empty_yes hd]
    have hr : 0 < r.size := by rw [ByteArray.size_append] at h; omega
    have e0 : (d ++ r)[0] = r[0] := by
      rw [ByteArray.getElem_append_right (by omega)]
      congr 1
      omega
    rw [e0]
    exact h2 hr

set_option maxHeartbeats 1000000 in
theorem tab_walk (s : ByteArray) (w0 : s.size ≤ maxLen) (w : World) :
    Calls Try.prog 5 #[.string s] w fun e w' => e = .returned (.bool true) ∧ Grown w w' := by
  go_enter Try.func5, Try.ntmps5
  go_wp2_with fail
  refine (bytes12 s w).mono ?_
  rintro e w1 ⟨r, rfl, hw⟩
  obtain rfl : w = w1 := hw.symm
  clear hw
  cases r with
  | false =>
    go_wp2
    go_ret
    exact ⟨rfl, Grown.refl _⟩
  | true =>
    by_cases h : s.size ≤ 1048576
    case neg =>
      go_wp2
      go_ret
      exact ⟨rfl, Grown.refl _⟩
    go_wp2_with fail
    refine (cut13 s w w0).mono ?_
    rintro e w1 (⟨h1, rfl, hw⟩ | ⟨h1, d, r, rfl, hcat, hd, hr, hds, hrs, n, hw⟩)
    · obtain rfl : w = w1 := hw.symm
      clear hw
      by_cases hz : 0 < s.size
      · have he : s.toList.isEmpty = false := empty_no hz
        rw [dot_iff hz] at h1
        have hb := byte_ne h1
        clear h1
        go_wp2
        go_ret
        exact ⟨rfl, Grown.refl _⟩
      · have he : s.toList.isEmpty = true := empty_yes hz
        clear h1
        go_wp2
        go_ret
        exact ⟨rfl, Grown.refl _⟩
    · have hz : 0 < s.size := by
        rcases Nat.lt_or_ge 0 s.size with x | x
        · exact x
        · rw [dot_empty (by omega)] at h1; cases h1
      have he : s.toList.isEmpty = false := empty_no hz
      rw [dot_iff hz] at h1
      have hb := byte_eq h1
      have HG : Hid (Grown w w1) := grown_drewN hw
      have HD : Hid (alld d ∧ nod r) := ⟨hd, hr⟩
      clear h1 hw hd hr
      have hadd : d.size + r.size ≤ 9223372036854775807 := by omega
      have hsz : d.size + r.size = s.size - 1 := by
        have := congrArg ByteArray.size hcat
        rw [ByteArray.size_append, ByteArray.size_extract] at this
        omega
      have HT : Hid (∀ h : 0 < (s.extract 1 s.size).size, isd (s.extract 1 s.size)[0] = !d.toList.isEmpty) := fun h => tab_plain hcat HD.out.1 HD.out.2 h
      have hes : 0 < s.size - 1 → 0 < (s.extract 1 s.size).size := fun h => by rw [ByteArray.size_extract]; omega
      have HES : Hid (0 < s.size - 1 → 0 < (s.extract 1 s.size).size) := hes
      have HE3 : Hid (¬ 0 < s.size - 1 → d.toList.isEmpty = true) := fun h => empty_yes (by omega)
      clear hsz hes
      go_wp2_with fail
      refine (allDigits_any d w1 (by unfold maxLen; omega)).mono ?_
      rintro e w2 ⟨rr, rfl, hw, hr⟩
      obtain rfl : w1 = w2 := hw.symm
      clear hw
      obtain rfl : rr = true := hr.2 HD.out.1
      clear hr
      by_cases hlt : 0 < r.size
      · have he2 : r.toList.isEmpty = false := empty_no hlt
        have H0 : Hid (∀ h : 0 < r.size, isd r[0] = false) := HD.out.2
        go_wp2_with fail
        refine (isDigit_any r[0] w1).mono ?_
        rintro e w2 ⟨rfl, hw⟩
        obtain rfl : w1 = w2 := hw.symm
        clear hw
        rw [H0.out hlt]
        by_cases h4 : 0 < s.size - 1
        · go_wp2_with fail
          refine (isDigit_any _ w1).mono ?_
          rintro e w2 ⟨rfl, hw⟩
          obtain rfl : w1 = w2 := hw.symm
          clear hw
          rw [HT.out (HES.out h4)]
          generalize d.toList.isEmpty = bb
          go_wp2
          go_ret
          exact ⟨by cases bb <;> rfl, HG.out⟩
        · have he3 := HE3.out h4
          go_wp2
          go_ret
          exact ⟨rfl, HG.out⟩
      · have he2 : r.toList.isEmpty = true := empty_yes hlt
        by_cases h4 : 0 < s.size - 1
        · go_wp2_with fail
          refine (isDigit_any _ w1).mono ?_
          rintro e w2 ⟨rfl, hw⟩
          obtain rfl : w1 = w2 := hw.symm
          clear hw
          rw [HT.out (HES.out h4)]
          generalize d.toList.isEmpty = bb
          go_wp2
          go_ret
          exact ⟨by cases bb <;> rfl, HG.out⟩
        · have he3 := HE3.out h4
          go_wp2
          go_ret
          exact ⟨rfl, HG.out⟩
theorem dot_of (d t : ByteArray) : dot (((⟨#[46]⟩ : ByteArray) ++ d) ++ t) = true := by
  unfold dot
  rw [Lib.extract_toList]
  simp only [ByteArray.data_append, Array.toList_append]
  simp
theorem tail_of (d t : ByteArray) : (((⟨#[46]⟩ : ByteArray) ++ d) ++ t).extract 1 (((⟨#[46]⟩ : ByteArray) ++ d) ++ t).size = d ++ t := by
  apply bytes_ext
  rw [Lib.extract_data, Lib.size_eq]
  simp only [ByteArray.data_append, Array.toList_append]
  rw [List.take_of_length_le (by simp)]
  simp

/-- what f6 does once the tail is known not to begin with a digit -/
theorem reb_plain {d t d' r' : ByteArray} (hd : alld d) (ht : nod t) (e : d' ++ r' = (((⟨#[46]⟩ : ByteArray) ++ d) ++ t).extract 1 (((⟨#[46]⟩ : ByteArray) ++ d) ++ t).size) (h1 : alld d') (h2 : nod r') : d' = d ∧ r' = t :=
  split_unique (e.trans (tail_of d t)) h1 hd h2 ht

set_option maxHeartbeats 1000000 in
theorem reb_walk (d t : ByteArray) (w0 : d.size ≤ maxLen) (wt : t.size ≤ maxLen) (w : World) :
    Calls Try.prog 6 #[.string d, .string t] w fun e w' => e = .returned (.bool true) ∧ Grown w w' := by
  go_enter Try.func6, Try.ntmps6
  go_wp2_with fail
  refine (bytes14 d t w).mono ?_
  rintro e w1 ⟨r, rfl, hw⟩
  obtain rfl : w = w1 := hw.symm
  clear hw
  cases r with
  | false =>
    go_wp2
    go_ret
    exact ⟨rfl, Grown.refl _⟩
  | true =>
    by_cases h1 : d.size ≤ 524288
    case neg =>
      go_wp2
      go_ret
      exact ⟨rfl, Grown.refl _⟩
    by_cases h2 : t.size ≤ 524288
    case neg =>
      go_wp2
      go_ret
      exact ⟨rfl, Grown.refl _⟩
    by_cases hz : 0 < d.size
    case neg =>
      have he : d.toList.isEmpty = true := empty_yes hz
      go_wp2
      go_ret
      exact ⟨rfl, Grown.refl _⟩
    have he : d.toList.isEmpty = false := empty_no hz
    go_wp2_with fail
    refine (allDigits_any d w w0).mono ?_
    rintro e w2 ⟨rr, rfl, hw, hr⟩
    obtain rfl : w = w2 := hw.symm
    clear hw
    cases rr with
    | false =>
      go_wp2
      go_ret
      exact ⟨rfl, Grown.refl _⟩
    | true =>
      have HD : Hid (alld d) := hr.1 rfl
      clear hr
      have ha1 : (⟨#[46]⟩ : ByteArray).size + d.size ≤ 9223372036854775807 := by show 1 + d.size ≤ _; omega
      have ha2 : ((⟨#[46]⟩ : ByteArray) ++ d).size + t.size ≤ 9223372036854775807 := by rw [ByteArray.size_append]; show 1 + d.size + t.size ≤ _; omega
      have hsz : (((⟨#[46]⟩ : ByteArray) ++ d) ++ t).size ≤ maxLen := by rw [ByteArray.size_append, ByteArray.size_append]; unfold maxLen; show 1 + d.size + t.size ≤ _; omega
      by_cases hlt : 0 < t.size
      · have he2 : t.toList.isEmpty = false := empty_no hlt
        go_wp2_with fail
        refine (isDigit_any t[0] w).mono ?_
        rintro e w2 ⟨rfl, hw⟩
        obtain rfl : w = w2 := hw.symm
        clear hw
        cases hb : isd t[0] with
        | true =>
          clear hb
          go_wp2
          go_ret
          exact ⟨rfl, Grown.refl _⟩
        | false =>
          have HT : Hid (nod t) := fun _ => hb
          clear hb
          go_wp2_with fail
          refine (cut13 _ w hsz).mono ?_
          rintro e w1 (⟨h3, rfl, hw⟩ | ⟨h3, d', r', rfl, hcat, hd, hr, hds, hrs, n, hw⟩)
          · rw [dot_of] at h3; cases h3
          · obtain ⟨e1, e2⟩ := reb_plain HD.out HT.out hcat hd hr
            subst e1 e2
            have HG : Hid (Grown w w1) := grown_drewN hw
            clear hw hcat hd hr hds hrs h3 ha1 ha2 hsz
            go_wp2
            go_ret
            exact ⟨rfl, HG.out⟩
      · have he2 : t.toList.isEmpty = true := empty_yes hlt
        have HT : Hid (nod t) := fun h => absurd h hlt
        go_wp2_with fail
        refine (cut13 _ w hsz).mono ?_
        rintro e w1 (⟨h3, rfl, hw⟩ | ⟨h3, d', r', rfl, hcat, hd, hr, hds, hrs, n, hw⟩)
        · rw [dot_of] at h3; cases h3
        · obtain ⟨e1, e2⟩ := reb_plain HD.out HT.out hcat hd hr
          subst e1 e2
          have HG : Hid (Grown w w1) := grown_drewN hw
          clear hw hcat hd hr hds hrs h3 ha1 ha2 hsz
          go_wp2
          go_ret
          exact ⟨rfl, HG.out⟩
end Go.Proofs.Qxb6601354a
