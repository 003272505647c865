/-
  leadingDigits (15), ZZleadingDigits (8), zzIsDigit (10), zzAllDigits (9).
-/
import Derived.Test.Qxb6601354aRows
import Derived.WalkKit
import Derived.WalkSpells
import Derived.WalkLawsBesides
import Derived.Deep.QuietTactic
import Derived.BigQuiet
namespace Go.Proofs.Qxb6601354a
open Go.RowKit
set_option linter.unusedVariables false

/-- an ASCII digit -/
def isd (c : UInt8) : Bool := decide (48 ≤ (c.toNat : Int) ∧ (c.toNat : Int) ≤ 57)

def LeadPost (s : ByteArray) (w : World) (e : Ending) (w' : World) : Prop :=
  ∃ k, k ≤ s.size ∧ (∀ j (h : j < s.size), j < k → isd s[j] = true) ∧ (∀ h : k < s.size, isd s[k] = false) ∧ e = .returned (.tuple #[.string (s.extract 0 k), .string (s.extract k s.size)]) ∧ ∃ n, w' = w.drewN n

set_option maxHeartbeats 1000000 in
theorem leading15 (s : ByteArray) (w : World) (hs : s.size ≤ maxLen) : Calls Try.prog 15 #[.string s] w (LeadPost s w) := by
  unfold maxLen at hs
  go_enter Try.func15, Try.ntmps15
  go_wp2
  go_loop [4] (fun i => ∃ k : Nat, k ≤ s.size ∧ i = .int .i64 k ∧ ∀ j (h : j < s.size), j < k → isd s[j] = true) (fun i => s.size - (intOf i).toNat)
  case atStart => exact ⟨0, Nat.zero_le _, rfl, fun j _ h => absurd h (Nat.not_lt_zero j)⟩
  case round =>
    obtain ⟨k, hk, rfl, hd⟩ := hrel
    have HD : Hid (∀ j (h : j < s.size), j < k → isd s[j] = true) := hd
    clear hd
    by_cases hlt : k < s.size
    · by_cases h1 : 48 ≤ (s[k].toNat : Int)
      · by_cases h2 : (s[k].toNat : Int) ≤ 57
        · have HN : Hid (∀ j (h : j < s.size), j < k + 1 → isd s[j] = true) := by
            intro j h hj
            by_cases e : j = k
            · subst e; simp [isd, h1, h2]
            · exact HD.out j h (by omega)
          go_wp2
          go_round
          case rel => exact ⟨k + 1, by omega, by go_num, HN.out⟩
          case measure => simp [intOf]; omega
        · have HN : Hid (∀ h : k < s.size, isd s[k] = false) := fun _ => by simp [isd, h2]
          go_wp2
          have hki : (k : Int) ≤ (s.size : Int) := by omega
          go_quiet (fail)
          go_wp2
          go_ret2
          exact ⟨k, hk, HD.out, HN.out, rfl, _, rfl⟩
      · have HN : Hid (∀ h : k < s.size, isd s[k] = false) := fun _ => by simp [isd, h1]
        go_wp2
        have hki : (k : Int) ≤ (s.size : Int) := by omega
        go_quiet (fail)
        go_wp2
        go_ret2
        exact ⟨k, hk, HD.out, HN.out, rfl, _, rfl⟩
    · have HN : Hid (∀ h : k < s.size, isd s[k] = false) := fun h => absurd h hlt
      have hdd : decide ((k : Int) < (s.size : Int)) = false := by simp; omega
      go_wp2
      have hki : (k : Int) ≤ (s.size : Int) := by omega
      go_quiet (fail)
      go_wp2
      go_ret2
      exact ⟨k, hk, HD.out, HN.out, rfl, _, rfl⟩

theorem leading_any (s : ByteArray) (w : World) (hs : s.size ≤ maxLen) : Calls Try.prog 8 #[.string s] w (LeadPost s w) := by
  go_enter Try.func8, Try.ntmps8
  go_wp2_with fail
  refine (leading15 s w hs).mono ?_
  rintro e w' ⟨k, h1, h2, h3, rfl, n, hw⟩
  have HN : Hid (_ ∧ _) := ⟨h2, h3⟩
  clear h2 h3
  go_wp2
  go_ret2
  exact ⟨k, h1, HN.out.1, HN.out.2, rfl, n, rfl⟩

theorem isDigit_any (c : UInt8) (w : World) : Calls Try.prog 10 #[.int .u8 (c.toNat : Int)] w fun e w' => e = .returned (.bool (isd c)) ∧ w' = w := by
  by_cases h1 : 48 ≤ (c.toNat : Int)
  · by_cases h2 : (c.toNat : Int) ≤ 57
    · have e : isd c = true := by simp [isd, h1, h2]
      rw [e]
      clear e
      go_enter Try.func10, Try.ntmps10
      go_wp2
      go_ret
      exact ⟨rfl, rfl⟩
    · have e : isd c = false := by simp [isd, h2]
      rw [e]
      clear e
      go_enter Try.func10, Try.ntmps10
      go_wp2
      go_ret
      exact ⟨rfl, rfl⟩
  · have e : isd c = false := by simp [isd, h1]
    rw [e]
    clear e
    go_enter Try.func10, Try.ntmps10
    go_wp2
    go_ret
    exact ⟨rfl, rfl⟩

/-- all bytes are digits -/
def alld (s : ByteArray) : Prop := ∀ j (h : j < s.size), isd s[j] = true
/-- zzAllDigits: a Bool; it says whether all bytes are digits; nothing turns -/
def AllPost (s : ByteArray) (w : World) (e : Ending) (w' : World) : Prop := ∃ r : Bool, e = .returned (.bool r) ∧ w' = w ∧ (r = true ↔ alld s)

set_option maxHeartbeats 1000000 in
theorem allDigits_any (s : ByteArray) (w : World) (hs : s.size ≤ maxLen) : Calls Try.prog 9 #[.string s] w (AllPost s w) := by
  unfold maxLen at hs
  go_enter Try.func9, Try.ntmps9
  go_wp2
  go_loop [3] (fun i => ∃ k : Nat, k ≤ s.size ∧ i = .int .i64 k ∧ ∀ j (h : j < s.size), j < k → isd s[j] = true) (fun i => s.size - (intOf i).toNat)
  case atStart => exact ⟨0, Nat.zero_le _, rfl, fun j _ h => absurd h (Nat.not_lt_zero j)⟩
  case round =>
    obtain ⟨k, hk, rfl, hd⟩ := hrel
    have HD : Hid (∀ j (h : j < s.size), j < k → isd s[j] = true) := hd
    clear hd
    by_cases hlt : k < s.size
    · go_wp2_with fail
      refine (isDigit_any s[k] w).mono ?_
      rintro e w1 ⟨rfl, hw⟩
      obtain rfl : w = w1 := hw.symm
      clear hw
      cases hb : isd s[k] with
      | true =>
        have HN : Hid (∀ j (h : j < s.size), j < k + 1 → isd s[j] = true) := by
          intro j h hj
          by_cases e : j = k
          · subst e; exact hb
          · exact HD.out j h (by omega)
        clear hb
        go_wp2
        go_round
        case rel => exact ⟨k + 1, by omega, by go_num, HN.out⟩
        case measure => simp [intOf]; omega
      | false =>
        have HN : Hid (isd s[k] = false) := hb
        clear hb
        go_wp2
        go_ret
        exact ⟨false, rfl, rfl, by simp, fun h => by have := h k hlt; rw [HN.out] at this; cases this⟩
    · go_wp2
      go_ret
      exact ⟨true, rfl, rfl, fun _ j h => HD.out j h (by omega), fun _ => rfl⟩
end Go.Proofs.Qxb6601354a
