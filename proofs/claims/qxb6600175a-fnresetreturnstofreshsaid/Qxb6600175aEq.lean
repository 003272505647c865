/-
  zzEqualBytes (15) at two slices that read alike: true; and ZZNewFrameWriter (11) without longs.
-/
import Derived.Test.Qxb6600175aStretch
import Derived.Test.Qxb6600175aCount
import Derived.Deep.QuietTactic
import Derived.BigQuiet
namespace Go.Proofs.Qxb6600175a
open Go.RowKit
set_option linter.unusedVariables false

def TruePost (w : World) (e : Ending) (w' : World) : Prop := e = .returned (.bool true) ∧ ∃ n, w' = w.drewN n

set_option maxHeartbeats 1000000 in
theorem equal_any {R R' : Nat → Prop} {w : World} {a b : Value} {bs : List Int} (ha : Rd R w a (bcells bs)) (hb : Rd R' w b (bcells bs)) (hl : bs.length ≤ 1099511627776) :
    Calls Try.prog 15 #[a, b] w (TruePost w) := by
  obtain ⟨ad, cap, rfl, h1, h2, h3, h4⟩ := ha
  obtain ⟨ad', cap', rfl, h1', h2', h3', h4'⟩ := hb
  rw [bcells_length]
  have HA : Hid (∀ k, k < bs.length → ∃ p off p' off' x, ad = some ⟨p, off, none⟩ ∧ ad' = some ⟨p', off', none⟩ ∧ w.cell? ⟨p, off + k, none⟩ = some (.int .u8 x) ∧ w.cell? ⟨p', off' + k, none⟩ = some (.int .u8 x)) := by
    intro k hk
    have hne : bcells bs ≠ [] := by intro e; have := congrArg List.length e; rw [bcells_length] at this; simp at this; subst this; simp at hk
    obtain ⟨p, off, e1, _, hc⟩ := h4 hne
    obtain ⟨p', off', e1', _, hc'⟩ := h4' hne
    have hx : (bcells bs)[k]? = some (.int .u8 bs[k]) := by simp [bcells, hk]
    exact ⟨p, off, p', off', bs[k], e1, e1', hc k _ hx, hc' k _ hx⟩
  clear h1 h2 h3 h4 h1' h2' h3' h4'
  generalize bs.length = n at hl HA
  go_enter Try.func15, Try.ntmps15
  go_wp2
  go_loopw [5] (fun i wr => ∃ k m : Nat, k ≤ n ∧ i = .int .i64 k ∧ wr = w.drewN m) (fun i _ => n - (intOf i).toNat)
  case atStart => exact ⟨0, 0, Nat.zero_le _, rfl, rfl⟩
  case round =>
    obtain ⟨k, m, hk, rfl, rfl⟩ := hrel
    by_cases hlt : k < n
    · obtain ⟨p, off, p', off', x, rfl, rfl, hc, hc'⟩ := HA.out k hlt
      have hlt' : (k : Int) < n := by omega
      go_wp2
      go_quiet (fail)
      go_wp2
      go_roundw
      case rel => exact ⟨k + 1, _, by omega, by go_num, rfl⟩
      case measure => simp [intOf]; omega
    · go_wp2
      go_ret
      exact ⟨rfl, m, rfl⟩

set_option maxHeartbeats 1000000 in
theorem new0_any (w : World) (ad : Option Addr) (n cap : Nat) (hd fr sz : Int) :
    Calls Try.prog 11 #[.slice ad n cap, .slice none 0 0, .slice none 0 0, .int .i64 hd, .int .i64 fr, .int .i64 sz] w fun e w' => e = .returned (.pointer (some ⟨w.heap.size, 0, none⟩)) ∧ w' = w.alloc (.cells #[.slice ad n cap, .slice none 0 0, .int .i64 hd, .int .i64 fr, .int .i64 sz] 52) := by
  go_enter Try.func11, Try.ntmps11
  go_wp2
  go_ret
  exact ⟨rfl, rfl⟩
end Go.Proofs.Qxb6600175a
