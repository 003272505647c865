/-
  From what an argument reads as to 'Rd', 'RdC'.
-/
import Derived.Test.Qxb6600175aCloneC
import Derived.ProofKit
import Derived.OpenShut
import Derived.ShutString
import Derived.ChangeOld
import Derived.Deep.Matrix
import Derived.Deep.Grids
namespace Go.Proofs.Qxb6600175a
open Go.ChangeShapes Go.WideShapes Go.ChangeAt Go.RowKit
set_option linter.unusedVariables false

theorem Try.own : ownKnob Try.prog.godebug = none := by kernel_rfl
theorem Try.laidOut : laidOutB Try.prog = true := by kernel_rfl

theorem spot_none {w : World} {x : Addr} {v : Value} (h : w.cell? x = some v) : ∃ b off, x = ⟨b, off, none⟩ := by
  obtain ⟨b, off, sp⟩ := x
  cases sp with
  | none => exact ⟨b, off, rfl⟩
  | some s =>
    exfalso
    simp only [World.cell?] at h
    split at h <;> simp at h

theorem rd_of_cells {w : World} {x : Addr} {len cap : Nat} {f : Nat → Value} (hl : len ≤ cap) (hm : cap ≤ maxLen) (hcell : ∀ i, i < len → w.cell? (x.add i) = some (f i)) :
    Rd (· < w.heap.size) w (.slice (some x) len cap) ((List.range len).map f) := by
  refine ⟨some x, cap, by simp, by simpa using hl, hm, (fun h => by cases h), fun hne => ?_⟩
  have hp : 0 < len := by
    rcases Nat.eq_zero_or_pos len with h | h
    · subst h; simp at hne
    · exact h
  have h0 := hcell 0 hp
  have e0 : x.add 0 = x := by simp [Addr.add]
  rw [e0] at h0
  clear e0
  obtain ⟨b, off, rfl⟩ := spot_none h0
  refine ⟨b, off, rfl, World.block_lt_of_cell? w _ h0, fun i u hu => ?_⟩
  have hi : i < len := by have := (List.getElem?_eq_some_iff.1 hu).1; simpa using this
  have e := hcell i hi
  rw [Addr.add_lit] at e
  simp [hi] at hu
  rw [e, hu]

theorem rd_nil (w : World) : Rd (· < w.heap.size) w (.slice none 0 0) [] := ⟨none, 0, rfl, Nat.le_refl _, Nat.zero_le _, fun _ => rfl, fun h => absurd rfl h⟩

section
variable {H : Type} {enc : TypeId × Value → H} {w : World}

theorem rd_of_ints {t e : TypeId} {k : IntKind} {v : Value} {d : DataW H} {p : List MemPlace} (ht : Try.prog.underlying t = some (.slice e)) (he : Try.prog.underlying e = some (.int k)) (ce : Try.prog.cellsOf e = 1)
    (h : DataW.Trod enc Try.prog w 0 (fun _ => true) true t v d p) {a : Option Addr} {len cap : Nat} (hv : v = .slice a len cap) : ∃ zs : List Int, Rd (· < w.heap.size) w v (zs.map (Value.int k)) := by
  subst hv
  obtain ⟨fuel, hf⟩ := h
  rcases open_ints ht he ce hf with ⟨hcs, _⟩ | ⟨x, l, c, zs, hcs, _, hl, hm, hz, _, hcell, hwz⟩
  · simp [Value.cells] at hcs
    obtain ⟨rfl, rfl, rfl⟩ := hcs
    exact ⟨[], rd_nil w⟩
  · simp [Value.cells] at hcs
    obtain ⟨rfl, rfl, rfl⟩ := hcs
    refine ⟨(List.range len).map (fun i => zs.getD i 0), ?_⟩
    rw [List.map_map]
    exact rd_of_cells hl hm (fun i hi => hcell i (by simp at hz; omega))

theorem rd_of_bools {t e : TypeId} {v : Value} {d : DataW H} {p : List MemPlace} (ht : Try.prog.underlying t = some (.slice e)) (he : Try.prog.underlying e = some .bool) (ce : Try.prog.cellsOf e = 1)
    (h : DataW.Trod enc Try.prog w 0 (fun _ => true) true t v d p) {a : Option Addr} {len cap : Nat} (hv : v = .slice a len cap) : ∃ zs : List Bool, Rd (· < w.heap.size) w v (zs.map Value.bool) := by
  subst hv
  obtain ⟨fuel, hf⟩ := h
  rcases Go.Deep.open_bools ht he ce hf with ⟨hcs, _⟩ | ⟨x, l, c, B, hcs, _, hl, hm, _, hcell⟩
  · simp [Value.cells] at hcs
    obtain ⟨rfl, rfl, rfl⟩ := hcs
    exact ⟨[], rd_nil w⟩
  · simp [Value.cells] at hcs
    obtain ⟨rfl, rfl, rfl⟩ := hcs
    refine ⟨(List.range len).map B, ?_⟩
    rw [List.map_map]
    exact rd_of_cells hl hm (fun i hi => hcell i (by omega))

theorem rdc_of_rows {v : Value} {d : DataW H} {p : List MemPlace} (h : DataW.Trod enc Try.prog w 0 (fun _ => true) true 22 v d p) {a : Option Addr} {len cap : Nat} (hv : v = .slice a len cap) : ∃ ps, RdC (· < w.heap.size) w v ps := by
  subst hv
  obtain ⟨fuel, hf⟩ := h
  rcases Go.Deep.open_int_rows Try.underlying22 Try.underlying30 Try.underlying5 (by kernel_rfl) (by kernel_rfl) hf with ⟨hcs, _⟩ | ⟨x, l, c, A, L, C, Z, hcs, _, hl, hm, _, hrows⟩
  · simp [Value.cells] at hcs
    obtain ⟨rfl, rfl, rfl⟩ := hcs
    exact ⟨[], rd_nil w, by simp⟩
  · simp [Value.cells] at hcs
    obtain ⟨rfl, rfl, rfl⟩ := hcs
    refine ⟨(List.range len).map (fun i => (.slice (A i) (L i) (C i), (List.range (L i)).map (fun j => (Z i).getD j 0))), ?_, ?_⟩
    · rw [List.map_map]
      exact rd_of_cells hl hm (fun i hi => (hrows i (by omega)).1)
    · intro q hq
      obtain ⟨i, hi, rfl⟩ := List.mem_map.1 hq
      have hi' := List.mem_range.1 hi
      obtain ⟨_, h1, h2, h3, h4, h5, h6⟩ := hrows i (by omega)
      show Rd _ w (.slice (A i) (L i) (C i)) (bcells _)
      cases hA : A i with
      | none =>
        have := h5 hA
        have e1 : L i = 0 := by omega
        rw [e1, this]
        exact rd_nil w
      | some a' =>
        have := (h6 a' hA).2
        unfold bcells
        rw [List.map_map]
        exact rd_of_cells h1 h2 (fun j hj => this j (by omega))
end
end Go.Proofs.Qxb6600175a
