/-
  What a frameWriter holds in memory, and the functions that only read it: 16 ZZSize, 17 ZZBuf, 18 ZZNumLongs, 19 ZZLongAt, 20 ZZLongBytes, 21 ZZFrame, 22 ZZHead.
-/
import Derived.Test.Qxb6600175aCloneC
namespace Go.Proofs.Qxb6600175a
open Go.RowKit
set_option linter.unusedVariables false

/-- the longs' cells: each an int and a slice -/
def lcells : List (Int × Value × List Int) → List Value
  | [] => []
  | p :: ps => .int .i64 p.1 :: p.2.1 :: lcells ps
theorem lcells_length : ∀ ls : List (Int × Value × List Int), (lcells ls).length = ls.length * 2
  | [] => rfl
  | p :: ps => by simp [lcells, lcells_length ps]; omega
theorem lcells_append : ∀ a b : List (Int × Value × List Int), lcells (a ++ b) = lcells a ++ lcells b
  | [], b => rfl
  | p :: ps, b => by simp [lcells, lcells_append ps b]
theorem lcells_get0 : ∀ (ls : List (Int × Value × List Int)) (i : Nat) (h : i < ls.length), (lcells ls)[i * 2]? = some (.int .i64 ls[i].1)
  | [], i, h => by simp at h
  | p :: ps, 0, h => by simp [lcells]
  | p :: ps, i + 1, h => by
    have := lcells_get0 ps i (by simpa using h)
    rw [show (i + 1) * 2 = i * 2 + 2 from by omega]
    simpa [lcells] using this
theorem lcells_get1 : ∀ (ls : List (Int × Value × List Int)) (i : Nat) (h : i < ls.length), (lcells ls)[i * 2 + 1]? = some ls[i].2.1
  | [], i, h => by simp at h
  | p :: ps, 0, h => by simp [lcells]
  | p :: ps, i + 1, h => by
    have := lcells_get1 ps i (by simpa using h)
    rw [show (i + 1) * 2 + 1 = (i * 2 + 1) + 2 from by omega]
    simpa [lcells] using this

/-- The writer in block f: its five cells; its buf and its longs, rows of the call's own. -/
structure Wk (w : World) (f : Nat) (bv lv : Value) (bs : List Int) (ls : List (Int × Value × List Int)) (hd fr sz : Int) : Prop where
  blk : w.heap[f]? = some (.cells #[bv, lv, .int .i64 hd, .int .i64 fr, .int .i64 sz] 52 (0, 0))
  buf : w.ownsRow 0 5 1 bv bs.length (bcells bs)
  lng : w.ownsRow 0 50 2 lv ls.length (lcells ls)

theorem Wk.keep {R : Nat → Prop} {w w' : World} {f : Nat} {bv lv : Value} {bs : List Int} {ls : List (Int × Value × List Int)} {hd fr sz : Int} (h : Wk w f bv lv bs ls hd fr sz) (k : Keep R w w')
    (hf : R f) (hb : ∀ j, bv.ownBlock = some j → R j) (hl : ∀ j, lv.ownBlock = some j → R j) : Wk w' f bv lv bs ls hd fr sz :=
  ⟨(k.block f hf).trans h.blk, ownsRow_keep h.buf k hb, ownsRow_keep h.lng k hl⟩
theorem Wk.below {w w' : World} {f : Nat} {bv lv : Value} {bs : List Int} {ls : List (Int × Value × List Int)} {hd fr sz : Int} (h : Wk w f bv lv bs ls hd fr sz) (k : Below w.heap.size w w') : Wk w' f bv lv bs ls hd fr sz :=
  h.keep (R := fun j => j < w.heap.size) (Keep.of_below k (fun _ h => h)) (lt_of_block h.blk) (fun j hj => (ownsRow_lt h.buf hj).2) (fun j hj => (ownsRow_lt h.lng hj).2)
theorem Wk.cells {w : World} {f : Nat} {bv lv : Value} {bs : List Int} {ls : List (Int × Value × List Int)} {hd fr sz : Int} (h : Wk w f bv lv bs ls hd fr sz) :
    w.cell? ⟨f, 0, none⟩ = some bv ∧ w.cell? ⟨f, 1, none⟩ = some lv ∧ w.cell? ⟨f, 2, none⟩ = some (.int .i64 hd) ∧ w.cell? ⟨f, 3, none⟩ = some (.int .i64 fr) ∧ w.cell? ⟨f, 4, none⟩ = some (.int .i64 sz) := by
  have hb := h.blk
  refine ⟨?_, ?_, ?_, ?_, ?_⟩ <;> simp [World.cell?, hb]
theorem Wk.free {w : World} {f : Nat} {bv lv : Value} {bs : List Int} {ls : List (Int × Value × List Int)} {hd fr sz : Int} (h : Wk w f bv lv bs ls hd fr sz) (i : Nat) : w.frozen? ⟨f, i, none⟩ = false := by
  have hb := h.blk
  simp [World.frozen?, hb]

section
variable {w : World} {f : Nat} {bv lv : Value} {bs : List Int} {ls : List (Int × Value × List Int)} {hd fr sz : Int}

theorem size_any (h : Wk w f bv lv bs ls hd fr sz) : Calls Try.prog 16 #[.pointer (some ⟨f, 0, none⟩)] w fun e w' => e = .returned (.int .i64 sz) ∧ w' = w := by
  obtain ⟨c0, c1, c2, c3, c4⟩ := h.cells
  go_enter Try.func16, Try.ntmps16
  go_wp2
  go_ret
  exact ⟨rfl, rfl⟩
theorem frame_any (h : Wk w f bv lv bs ls hd fr sz) : Calls Try.prog 21 #[.pointer (some ⟨f, 0, none⟩)] w fun e w' => e = .returned (.int .i64 fr) ∧ w' = w := by
  obtain ⟨c0, c1, c2, c3, c4⟩ := h.cells
  go_enter Try.func21, Try.ntmps21
  go_wp2
  go_ret
  exact ⟨rfl, rfl⟩
theorem head_any (h : Wk w f bv lv bs ls hd fr sz) : Calls Try.prog 22 #[.pointer (some ⟨f, 0, none⟩)] w fun e w' => e = .returned (.int .i64 hd) ∧ w' = w := by
  obtain ⟨c0, c1, c2, c3, c4⟩ := h.cells
  go_enter Try.func22, Try.ntmps22
  go_wp2
  go_ret
  exact ⟨rfl, rfl⟩
theorem buf_any (h : Wk w f bv lv bs ls hd fr sz) : Calls Try.prog 17 #[.pointer (some ⟨f, 0, none⟩)] w fun e w' => e = .returned bv ∧ w' = w := by
  obtain ⟨c0, c1, c2, c3, c4⟩ := h.cells
  go_enter Try.func17, Try.ntmps17
  go_wp2
  go_ret
  exact ⟨rfl, rfl⟩
theorem numLongs_any (h : Wk w f bv lv bs ls hd fr sz) : Calls Try.prog 18 #[.pointer (some ⟨f, 0, none⟩)] w fun e w' => e = .returned (.int .i64 ls.length) ∧ w' = w := by
  obtain ⟨c0, c1, c2, c3, c4⟩ := h.cells
  obtain ⟨ad, cap, hv, _, _⟩ := ownsRow_form h.lng
  rw [hv] at c1
  go_enter Try.func18, Try.ntmps18
  go_wp2
  go_ret
  exact ⟨rfl, rfl⟩
theorem Wk.long (h : Wk w f bv lv bs ls hd fr sz) (i : Nat) (hi : i < ls.length) : ∃ g cap, lv = .slice (some ⟨g, 0, none⟩) ls.length cap ∧ w.cell? ⟨g, i * 2, none⟩ = some (.int .i64 ls[i].1) ∧ w.cell? ⟨g, i * 2 + 1, none⟩ = some ls[i].2.1 := by
  rcases h.lng.2 with ⟨_, e⟩ | ⟨g, cap, cur, hv, _⟩
  · omega
  · refine ⟨g, cap, hv, ?_, ?_⟩
    · have := h.lng.cells (g := g) (by rw [hv]; rfl) _ _ (lcells_get0 ls i hi)
      rw [Addr.add_lit] at this; simpa using this
    · have := h.lng.cells (g := g) (by rw [hv]; rfl) _ _ (lcells_get1 ls i hi)
      rw [Addr.add_lit] at this; simpa using this
theorem longAt_any (h : Wk w f bv lv bs ls hd fr sz) (i : Nat) (hi : i < ls.length) (hb : ls.length ≤ 1099511627776) : Calls Try.prog 19 #[.pointer (some ⟨f, 0, none⟩), .int .i64 i] w fun e w' => e = .returned (.int .i64 ls[i].1) ∧ w' = w := by
  obtain ⟨c0, c1, c2, c3, c4⟩ := h.cells
  obtain ⟨g, cap, hv, l0, l1⟩ := h.long i hi
  rw [hv] at c1
  generalize ls[i].1 = at_ at l0 ⊢
  clear l1 hv
  generalize ls.length = n at c1 hi hb
  clear c0 c2 c3 c4 h
  go_enter Try.func19, Try.ntmps19
  go_wp2
  go_ret
  exact ⟨rfl, rfl⟩
theorem longBytes_any (h : Wk w f bv lv bs ls hd fr sz) (i : Nat) (hi : i < ls.length) (hb : ls.length ≤ 1099511627776) : Calls Try.prog 20 #[.pointer (some ⟨f, 0, none⟩), .int .i64 i] w fun e w' => e = .returned ls[i].2.1 ∧ w' = w := by
  obtain ⟨c0, c1, c2, c3, c4⟩ := h.cells
  obtain ⟨g, cap, hv, l0, l1⟩ := h.long i hi
  rw [hv] at c1
  generalize ls[i].2.1 = at_ at l1 ⊢
  clear l0 hv
  generalize ls.length = n at c1 hi hb
  clear c0 c2 c3 c4 h
  go_enter Try.func20, Try.ntmps20
  go_wp2
  go_ret
  exact ⟨rfl, rfl⟩
end
end Go.Proofs.Qxb6600175a
