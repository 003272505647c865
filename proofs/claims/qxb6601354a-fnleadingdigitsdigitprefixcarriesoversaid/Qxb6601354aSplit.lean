/-
  The plain law: a string parts in just one way into digits and a rest that does not begin with one; leadingDigits (8, 15) by it.
-/
import Derived.Test.Qxb6601354aLead
import Derived.Lib.Strings
namespace Go.Proofs.Qxb6601354a
open Go.RowKit
set_option linter.unusedVariables false

/-- it does not begin with a digit -/
def nod (s : ByteArray) : Prop := ∀ h : 0 < s.size, isd s[0] = false

theorem get_data (s : ByteArray) (j : Nat) (h : j < s.size) : s[j] = s.data.toList[j]'(by simpa using h) := rfl
theorem alld_list {s : ByteArray} (h : alld s) : ∀ c ∈ s.data.toList, isd c = true := by
  intro c hc
  obtain ⟨j, hj, rfl⟩ := List.getElem_of_mem hc
  exact h j (by simpa using hj)
theorem alld_of {s : ByteArray} (h : ∀ c ∈ s.data.toList, isd c = true) : alld s := fun j hj => h _ (List.getElem_mem (by simpa using hj))
theorem nod_list {s : ByteArray} (h : nod s) : ∀ c l, s.data.toList = c :: l → isd c = false := by
  intro c l e
  have hs : 0 < s.size := by rw [Lib.size_eq, e]; simp
  have h0 := h hs
  rw [get_data] at h0
  simp only [e, List.getElem_cons_zero] at h0
  exact h0

theorem split_list : ∀ (a a' b b' : List UInt8), a ++ b = a' ++ b' → (∀ c ∈ a, isd c = true) → (∀ c ∈ a', isd c = true) → (∀ c l, b = c :: l → isd c = false) → (∀ c l, b' = c :: l → isd c = false) → a = a' ∧ b = b'
  | [], [], b, b', e, _, _, _, _ => ⟨rfl, by simpa using e⟩
  | [], c :: a', b, b', e, _, h2, h3, _ => by
    simp only [List.nil_append, List.cons_append] at e
    have := h3 c _ e
    rw [h2 c (List.mem_cons_self ..)] at this
    cases this
  | c :: a, [], b, b', e, h1, _, _, h4 => by
    simp only [List.nil_append, List.cons_append] at e
    have := h4 c _ e.symm
    rw [h1 c (List.mem_cons_self ..)] at this
    cases this
  | c :: a, c' :: a', b, b', e, h1, h2, h3, h4 => by
    simp only [List.cons_append, List.cons.injEq] at e
    obtain ⟨rfl, e⟩ := e
    obtain ⟨r1, r2⟩ := split_list a a' b b' e (fun x hx => h1 x (List.mem_cons_of_mem _ hx)) (fun x hx => h2 x (List.mem_cons_of_mem _ hx)) h3 h4
    exact ⟨by rw [r1], r2⟩

theorem bytes_ext {a b : ByteArray} (h : a.data.toList = b.data.toList) : a = b := by
  cases a; cases b
  simp only [ByteArray.mk.injEq]
  exact Array.toList_inj.1 h
theorem split_unique {a a' b b' : ByteArray} (e : a ++ b = a' ++ b') (h1 : alld a) (h2 : alld a') (h3 : nod b) (h4 : nod b') : a = a' ∧ b = b' := by
  have e' := congrArg (fun x : ByteArray => x.data.toList) e
  simp only [ByteArray.data_append, Array.toList_append] at e'
  obtain ⟨r1, r2⟩ := split_list _ _ _ _ e' (alld_list h1) (alld_list h2) (nod_list h3) (nod_list h4)
  exact ⟨bytes_ext r1, bytes_ext r2⟩
theorem alld_append {a b : ByteArray} (h1 : alld a) (h2 : alld b) : alld (a ++ b) := by
  apply alld_of
  intro c hc
  simp only [ByteArray.data_append, Array.toList_append, List.mem_append] at hc
  rcases hc with hc | hc
  · exact alld_list h1 c hc
  · exact alld_list h2 c hc
theorem empty_iff (s : ByteArray) : s.toList.isEmpty = decide (s.size = 0) := by
  rw [Lib.toList_data, Lib.size_eq]
  cases s.data.toList <;> simp

/-- what leadingDigits leaves: the split -/
def SplitPost (s : ByteArray) (w : World) (e : Ending) (w' : World) : Prop :=
  ∃ d r : ByteArray, e = .returned (.tuple #[.string d, .string r]) ∧ d ++ r = s ∧ alld d ∧ nod r ∧ d.size ≤ s.size ∧ r.size ≤ s.size ∧ ∃ n, w' = w.drewN n

theorem split_of {s : ByteArray} {w : World} {e : Ending} {w' : World} (h : LeadPost s w e w') : SplitPost s w e w' := by
  obtain ⟨k, hk, h1, h2, rfl, hn⟩ := h
  refine ⟨_, _, rfl, ?_, ?_, ?_, ?_, ?_, hn⟩
  · apply bytes_ext
    simp only [ByteArray.data_append, Array.toList_append]
    rw [Lib.extract_data, Lib.extract_data]
    simp only [List.drop_zero, Nat.sub_zero]
    rw [List.take_of_length_le (l := s.data.toList.drop k) (by rw [List.length_drop, ← Lib.size_eq]; exact Nat.le_refl _)]
    exact List.take_append_drop _ _
  · intro j hj
    have hj' : j < k := by rw [ByteArray.size_extract] at hj; omega
    have e := h1 j (by omega) hj'
    rw [ByteArray.getElem_extract]
    simpa using e
  · intro h0
    have hlt : k < s.size := by rw [ByteArray.size_extract] at h0; omega
    have e := h2 hlt
    rw [ByteArray.getElem_extract]
    simpa using e
  · rw [ByteArray.size_extract]; omega
  · rw [ByteArray.size_extract]; omega

theorem lead8 (s : ByteArray) (w : World) (hs : s.size ≤ maxLen) : Calls Try.prog 8 #[.string s] w (SplitPost s w) := (leading_any s w hs).mono fun _ _ h => split_of h
theorem lead15 (s : ByteArray) (w : World) (hs : s.size ≤ maxLen) : Calls Try.prog 15 #[.string s] w (SplitPost s w) := (leading15 s w hs).mono fun _ _ h => split_of h

theorem grown_drewN {w w' : World} {n : Nat} (h : w' = w.drewN n) : Grown w w' := by
  rw [h]
  exact ⟨(show Below w.heap.size w (w.drewN n) from ⟨rfl, rfl, rfl, Nat.le_refl _, fun _ _ => rfl⟩).frame _, fun _ => rfl, Nat.le_refl _⟩
end Go.Proofs.Qxb6601354a
