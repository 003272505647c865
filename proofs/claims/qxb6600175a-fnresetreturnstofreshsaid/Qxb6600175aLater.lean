/-
  Small laws: what was read in one world, read in a later one.
-/
import Derived.Test.Qxb6600175aPlain
namespace Go.Proofs.Qxb6600175a
open Go.RowKit
set_option linter.unusedVariables false

theorem Rd.later {R : Nat → Prop} {w w' : World} {v : Value} {cs : List Value} (h : Rd R w v cs) (hb : Below w.heap.size w w') : Rd R w' v cs := by
  have := (h.mono (R' := fun k => R k ∧ k < w.heap.size) (fun k a b => ⟨a, b⟩)).keep (w' := w') (Keep.of_below hb (fun k x => x.2))
  exact this.mono (fun k a _ => a.1)
theorem RdC.later {R : Nat → Prop} {w w' : World} {v : Value} {ps : List (Value × List Int)} (h : RdC R w v ps) (hb : Below w.heap.size w w') : RdC R w' v ps := by
  have := (h.mono (R' := fun k => R k ∧ k < w.heap.size) (fun k a b => ⟨a, b⟩)).keep (w' := w') (Keep.of_below hb (fun k x => x.2))
  exact this.mono (fun k a _ => a.1)
theorem RdC.low {R : Nat → Prop} {w : World} {v : Value} {ps : List (Value × List Int)} (h : RdC R w v ps) : RdC (· < w.heap.size) w v ps := h.mono (fun _ _ h => h)
theorem below_drawn {w w' : World} {n : Nat} (h : w' = w.drewN n) : Below w.heap.size w w' := by
  rw [h]; exact ((Keep.refl (fun _ => True) w).drewN n).below (fun _ _ => trivial)
theorem Rd.formBool {R : Nat → Prop} {w : World} {v : Value} {bg : List Bool} (h : Rd R w v (bg.map Value.bool)) : ∃ ad cap, v = .slice ad bg.length cap ∧ bg.length ≤ maxLen := by
  obtain ⟨ad, cap, e, h1, h2, _⟩ := h
  rw [List.length_map] at e h1
  exact ⟨ad, cap, e, by omega⟩
theorem bools_one (bg : List Bool) : ∀ u ∈ bg.map Value.bool, u.oneCell' = true := by
  intro u hu
  obtain ⟨_, _, rfl⟩ := List.mem_map.1 hu
  rfl
/-- is there a begin at step k? -/
def isBeg (bg : List Bool) (k : Nat) : Bool := (bg[k]?).getD false
theorem isBeg_in {bg : List Bool} {k : Nat} (h : k < bg.length) : isBeg bg k = bg[k] := by simp [isBeg, h]
theorem isBeg_out {bg : List Bool} {k : Nat} (h : ¬ k < bg.length) : isBeg bg k = false := by simp [isBeg, List.getElem?_eq_none (by omega : bg.length ≤ k)]
/-- the cell of begins[k] -/
theorem Rd.boolAt {R : Nat → Prop} {w : World} {ad : Option Addr} {n cap : Nat} {bg : List Bool} (h : Rd R w (.slice ad n cap) (bg.map Value.bool)) {k : Nat} (hk : k < bg.length) : ∃ b off, ad = some ⟨b, off, none⟩ ∧ R b ∧ w.cell? ⟨b, off + k, none⟩ = some (.bool bg[k]) := by
  obtain ⟨ad', cap', e, h1, h2, h3, h4⟩ := h
  simp only [Value.slice.injEq] at e
  obtain ⟨b, off, e4, hR, hc⟩ := h4 (by intro e'; have := congrArg List.length e'; rw [List.length_map] at this; simp at this; subst this; simp at hk)
  exact ⟨b, off, by rw [e.1, e4], hR, hc k _ (by simp [hk])⟩
end Go.Proofs.Qxb6600175a
