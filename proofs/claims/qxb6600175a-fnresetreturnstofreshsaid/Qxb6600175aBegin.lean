/-
  The writer with what it may not touch ('Wr R'), and begin (32, 12).
-/
import Derived.Test.Qxb6600175aWr
namespace Go.Proofs.Qxb6600175a
open Go.RowKit
set_option linter.unusedVariables false

structure Wr (R : Nat → Prop) (w : World) (f : Nat) (bv lv : Value) (bs : List Int) (ls : List (Int × Value × List Int)) (hd fr sz : Int) : Prop where
  wk : Wk w f bv lv bs ls hd fr sz
  rd : ∀ p ∈ ls, Rd R w p.2.1 (bcells p.2.2)
  nf : ¬ R f
  nb : ∀ k, bv.ownBlock = some k → ¬ R k
  nl : ∀ k, lv.ownBlock = some k → ¬ R k
  lt : ∀ k, R k → k < w.heap.size

section
variable {R : Nat → Prop} {w : World} {f : Nat} {bv lv : Value} {bs : List Int} {ls : List (Int × Value × List Int)} {hd fr sz : Int}

theorem heap_set {c : Array Value} {t : TypeId} (h : w.heap[f]? = some (.cells c t (0, 0))) (i : Nat) (u : Value) : (w.setCell ⟨f, i, none⟩ u).heap[f]? = some (.cells (c.setIfInBounds i u) t (0, 0)) :=
  heap_setCell_same w f i c t u h

theorem Wr.storeOther (h : Wr R w f bv lv bs ls hd fr sz) (i : Nat) (u : Value) :
    (w.setCell ⟨f, i, none⟩ u).ownsRow 0 5 1 bv bs.length (bcells bs) ∧ (w.setCell ⟨f, i, none⟩ u).ownsRow 0 50 2 lv ls.length (lcells ls) ∧ (∀ p ∈ ls, Rd R (w.setCell ⟨f, i, none⟩ u) p.2.1 (bcells p.2.2)) ∧
    (∀ k, R k → k < (w.setCell ⟨f, i, none⟩ u).heap.size) ∧ Keep R w (w.setCell ⟨f, i, none⟩ u) := by
  have hk : Keep R w (w.setCell ⟨f, i, none⟩ u) := (Keep.refl _ _).setCell h.nf _
  refine ⟨ownsRow_setCell_other h.wk.buf (ownsRow_ne_block h.wk.buf h.wk.blk (by decide)) _, ownsRow_setCell_other h.wk.lng (ownsRow_ne_block h.wk.lng h.wk.blk (by decide)) _, fun p hp => (h.rd p hp).keep hk, fun k hk' => ?_, hk⟩
  have := h.lt k hk'
  have := hk.size
  omega

theorem Wr.setHead (h : Wr R w f bv lv bs ls hd fr sz) (x : Int) : Wr R (w.setCell ⟨f, 2, none⟩ (.int .i64 x)) f bv lv bs ls x fr sz := by
  obtain ⟨a, b, c, d, _⟩ := h.storeOther 2 (.int .i64 x)
  exact ⟨⟨by rw [heap_set h.wk.blk]; rfl, a, b⟩, c, h.nf, h.nb, h.nl, d⟩
theorem Wr.setFrame (h : Wr R w f bv lv bs ls hd fr sz) (x : Int) : Wr R (w.setCell ⟨f, 3, none⟩ (.int .i64 x)) f bv lv bs ls hd x sz := by
  obtain ⟨a, b, c, d, _⟩ := h.storeOther 3 (.int .i64 x)
  exact ⟨⟨by rw [heap_set h.wk.blk]; rfl, a, b⟩, c, h.nf, h.nb, h.nl, d⟩
theorem Wr.setSize (h : Wr R w f bv lv bs ls hd fr sz) (x : Int) : Wr R (w.setCell ⟨f, 4, none⟩ (.int .i64 x)) f bv lv bs ls hd fr x := by
  obtain ⟨a, b, c, d, _⟩ := h.storeOther 4 (.int .i64 x)
  exact ⟨⟨by rw [heap_set h.wk.blk]; rfl, a, b⟩, c, h.nf, h.nb, h.nl, d⟩
theorem Wr.keepSet (h : Wr R w f bv lv bs ls hd fr sz) (i : Nat) (u : Value) : Keep R w (w.setCell ⟨f, i, none⟩ u) := (h.storeOther i u).2.2.2.2
theorem Wr.alloc (h : Wr R w f bv lv bs ls hd fr sz) (o : Obj) : Wr R (w.alloc o) f bv lv bs ls hd fr sz := by
  have hk : Keep R w (w.alloc o) := (Keep.refl _ _).alloc h.lt o
  exact ⟨⟨by rw [Below.heap_alloc _ _ _ (lt_of_block h.wk.blk)]; exact h.wk.blk, h.wk.buf.alloc o, h.wk.lng.alloc o⟩, fun p hp => (h.rd p hp).keep hk, h.nf, h.nb, h.nl, fun k hk' => by have := h.lt k hk'; simp; omega⟩
theorem Wr.drew (h : Wr R w f bv lv bs ls hd fr sz) : Wr R w.drew f bv lv bs ls hd fr sz :=
  ⟨⟨h.wk.blk, h.wk.buf, h.wk.lng⟩, fun p hp => (h.rd p hp).keep ((Keep.refl _ _).drew), h.nf, h.nb, h.nl, h.lt⟩

/-- buf has been appended to (in place or in a new block), and stored back. -/
theorem Wr.bufTo (h : Wr R w f bv lv bs ls hd fr sz) {w1 : World} {bv' : Value} {m : Nat} {x : List Int} (hx : x.length = m) (hown : w1.ownsRow 0 5 1 bv' (bs.length + m) (bcells bs ++ bcells x)) (hg : w.grownBy w1 bv.ownBlock)
    {H : Nat} (hH : w.heap.size = H) (hat : bv'.ownBlock = bv.ownBlock ∨ bv'.ownBlock = some H) :
    w1.heap[f]? = some (.cells #[bv, lv, .int .i64 hd, .int .i64 fr, .int .i64 sz] 52 (0, 0)) ∧ Wr R (w1.setCell ⟨f, 0, none⟩ bv') f bv' lv (bs ++ x) ls hd fr sz ∧ Keep R w (w1.setCell ⟨f, 0, none⟩ bv') := by
  subst hH
  have hbf := ownsRow_ne_block h.wk.buf h.wk.blk (by decide)
  have hlt := lt_of_block h.wk.blk
  have hblk : w1.heap[f]? = w.heap[f]? := hg.block f hlt (fun e => hbf e.symm)
  have hk1 : Keep R w w1 := (Keep.refl _ _).grown hg h.lt h.nb
  have hk : Keep R w (w1.setCell ⟨f, 0, none⟩ bv') := hk1.setCell h.nf _
  have hb1 := hblk.trans h.wk.blk
  subst hx
  rw [← bcells_append, ← List.length_append] at hown
  have hlng : w1.ownsRow 0 50 2 lv ls.length (lcells ls) := ownsRow_block h.wk.lng (fun k hk' => hg.block k (ownsRow_lt h.wk.lng hk').2 (fun e => ownsRow_ne h.wk.lng h.wk.buf (by decide) hk' e.symm))
  refine ⟨hb1, ⟨⟨?_, ?_, ?_⟩, fun p hp => (h.rd p hp).keep hk, h.nf, ?_, h.nl, ?_⟩, hk⟩
  · rw [heap_set hb1]; rfl
  · exact ownsRow_setCell_other hown (ownsRow_ne_block hown hb1 (by decide)) _
  · exact ownsRow_setCell_other hlng (ownsRow_ne_block hlng hb1 (by decide)) _
  · intro k hk'
    rcases hat with e | e
    · exact h.nb k (e ▸ hk')
    · rw [e] at hk'
      obtain rfl := Option.some.inj hk'
      exact fun hr => Nat.lt_irrefl _ (h.lt _ hr)
  · intro k hk'
    have := h.lt k hk'
    have := hk.size
    omega

/-- longs have been appended to, and stored back. -/
theorem Wr.lngTo (h : Wr R w f bv lv bs ls hd fr sz) {w1 : World} {lv' : Value} {p : Int × Value × List Int} (hp : Rd R w p.2.1 (bcells p.2.2)) (hown : w1.ownsRow 0 50 2 lv' (ls.length + 1) (lcells ls ++ [.int .i64 p.1, p.2.1])) (hg : w.grownBy w1 lv.ownBlock)
    {H : Nat} (hH : w.heap.size = H) (hat : lv'.ownBlock = lv.ownBlock ∨ lv'.ownBlock = some H) :
    w1.heap[f]? = some (.cells #[bv, lv, .int .i64 hd, .int .i64 fr, .int .i64 sz] 52 (0, 0)) ∧ Wr R (w1.setCell ⟨f, 1, none⟩ lv') f bv lv' bs (ls ++ [p]) hd fr sz ∧ Keep R w (w1.setCell ⟨f, 1, none⟩ lv') := by
  subst hH
  have hbf := ownsRow_ne_block h.wk.lng h.wk.blk (by decide)
  have hlt := lt_of_block h.wk.blk
  have hblk : w1.heap[f]? = w.heap[f]? := hg.block f hlt (fun e => hbf e.symm)
  have hk1 : Keep R w w1 := (Keep.refl _ _).grown hg h.lt h.nl
  have hk : Keep R w (w1.setCell ⟨f, 1, none⟩ lv') := hk1.setCell h.nf _
  have hb1 := hblk.trans h.wk.blk
  have ec : lcells ls ++ [.int .i64 p.1, p.2.1] = lcells (ls ++ [p]) := by rw [lcells_append]; rfl
  have el : ls.length + 1 = (ls ++ [p]).length := by simp
  rw [ec, el] at hown
  have hbuf : w1.ownsRow 0 5 1 bv bs.length (bcells bs) := ownsRow_block h.wk.buf (fun k hk' => hg.block k (ownsRow_lt h.wk.buf hk').2 (fun e => ownsRow_ne h.wk.buf h.wk.lng (by decide) hk' e.symm))
  refine ⟨hb1, ⟨⟨?_, ?_, ?_⟩, ?_, h.nf, h.nb, ?_, ?_⟩, hk⟩
  · rw [heap_set hb1]; rfl
  · exact ownsRow_setCell_other hbuf (ownsRow_ne_block hbuf hb1 (by decide)) _
  · exact ownsRow_setCell_other hown (ownsRow_ne_block hown hb1 (by decide)) _
  · intro q hq
    rcases List.mem_append.1 hq with hq | hq
    · exact (h.rd q hq).keep hk
    · simp at hq; subst hq; exact hp.keep hk
  · intro k hk'
    rcases hat with e | e
    · exact h.nl k (e ▸ hk')
    · rw [e] at hk'
      obtain rfl := Option.some.inj hk'
      exact fun hr => Nat.lt_irrefl _ (h.lt _ hr)
  · intro k hk'
    have := h.lt k hk'
    have := hk.size
    omega

/-- a built slice of four noughts -/
theorem rd_four (w : World) (H : Nat) (hH : w.heap.size = H) : Rd (fun k => k = H) (w.alloc (.cells #[.int .u8 0, .int .u8 0, .int .u8 0, .int .u8 0] 5)) (.slice (some ⟨H, 0, none⟩) 4 4) (bcells [0, 0, 0, 0]) := by
  subst hH
  refine ⟨some ⟨w.heap.size, 0, none⟩, 4, rfl, by simp [bcells], by simp [maxLen], (fun h => by cases h), fun _ => ⟨w.heap.size, 0, rfl, rfl, fun i u hu => ?_⟩⟩
  have hb := heap_alloc_new w (.cells #[.int .u8 0, .int .u8 0, .int .u8 0, .int .u8 0] 5)
  simp only [World.cell?, hb]
  simpa [bcells] using hu

theorem cells_of_five {w : World} {f : Nat} {v0 v1 v2 v3 v4 : Value} (hb : w.heap[f]? = some (.cells #[v0, v1, v2, v3, v4] 52 (0, 0))) :
    w.cell? ⟨f, 0, none⟩ = some v0 ∧ w.cell? ⟨f, 1, none⟩ = some v1 ∧ w.cell? ⟨f, 2, none⟩ = some v2 ∧ w.cell? ⟨f, 3, none⟩ = some v3 ∧ w.cell? ⟨f, 4, none⟩ = some v4 ∧ ∀ i, w.frozen? ⟨f, i, none⟩ = false := by
  refine ⟨?_, ?_, ?_, ?_, ?_, fun i => ?_⟩ <;> simp [World.cell?, World.frozen?, hb]

set_option maxHeartbeats 1000000 in
theorem begin32 (h : Wr R w f bv lv bs ls hd fr sz) (hl : bs.length ≤ 1099511627776) :
    Calls Try.prog 32 #[.pointer (some ⟨f, 0, none⟩)] w fun e w' => ∃ bv', e = .returned (.tuple #[]) ∧ Wr R w' f bv' lv (bs ++ [0, 0, 0, 0]) ls bs.length 0 (wrap64 (sz + 4)) ∧ Keep R w w' := by
  obtain ⟨ad, cap, rfl, _, _⟩ := ownsRow_form h.wk.buf
  obtain ⟨c0, c1, c2, c3, c4⟩ := h.wk.cells
  have fz := h.wk.free
  obtain ⟨i0, hi, hz0, hz1, hz2⟩ := info_parts Try.info5
  have H1 := (h.setHead bs.length).setFrame 0
  have H2 := H1.alloc (.cells #[.int .u8 0, .int .u8 0, .int .u8 0, .int .u8 0] 5)
  have h4 := rd_four ((w.setCell ⟨f, 2, none⟩ (.int .i64 bs.length)).setCell ⟨f, 3, none⟩ (.int .i64 0)) w.heap.size (by simp [World.setCell])
  have K2 : Keep R w (((w.setCell ⟨f, 2, none⟩ (.int .i64 bs.length)).setCell ⟨f, 3, none⟩ (.int .i64 0)).alloc (.cells #[.int .u8 0, .int .u8 0, .int .u8 0, .int .u8 0] 5)) :=
    ((h.keepSet 2 _).trans ((h.setHead bs.length).keepSet 3 _)).trans ((Keep.refl _ _).alloc H1.lt _)
  have hmx : bs.length + (bcells [0, 0, 0, 0]).length ≤ maxLen := by simp [bcells, maxLen]; omega
  have hbx : (bs.length + (bcells [0, 0, 0, 0]).length) * 1 ≤ 140737488355328 := by simp [bcells]; omega
  go_enter Try.func32, Try.ntmps32
  go_wp2_with (at_builtin; (refine wpList_append_rd _ rfl (.tmp 17) (.tmp 18) 30 rfl 0 5 i0 (.int .u8 0) 1 Try.underlying30 hi hz0 hz1 hz2 rfl _ _ _ rfl H2.wk.buf rfl h4 (bcells_one _) hmx hbx (Nat.zero_le _) ?_))
  intro bv' w1 hown hgrow hat
  obtain ⟨hb1, H3, K3⟩ := H2.bufTo (x := [0, 0, 0, 0]) rfl hown hgrow (by simp [World.setCell]) hat
  obtain ⟨ad', cap', hv0, _, _⟩ := ownsRow_form H3.wk.buf
  have hv' : bv' = .slice ad' (bs.length + 4) cap' := by rw [hv0]; simp
  obtain ⟨d0, d1, d2, d3, d4, fz1⟩ := cells_of_five hb1
  have H4 := H3.setSize (wrap64 (sz + 4))
  have K4 := (K2.trans K3).trans (H3.keepSet 4 (.int .i64 (wrap64 (sz + 4))))
  have HH := H4
  have HK := K4
  clear hv0 H1 H2 H3 H4 K2 K3 K4 h4 hown hgrow hat hb1 c0 c1 c2 c3 c4 fz h hmx hbx
  rw [hv'] at HH HK ⊢
  have HA : Hid (_ ∧ _) := ⟨HH, HK⟩
  clear HH HK
  go_wp2
  go_end0
  exact ⟨_, rfl, HA.out.1, HA.out.2⟩

theorem begin_any (h : Wr R w f bv lv bs ls hd fr sz) (hl : bs.length ≤ 1099511627776) :
    Calls Try.prog 12 #[.pointer (some ⟨f, 0, none⟩)] w fun e w' => ∃ bv', e = .returned (.tuple #[]) ∧ Wr R w' f bv' lv (bs ++ [0, 0, 0, 0]) ls bs.length 0 (wrap64 (sz + 4)) ∧ Keep R w w' := by
  go_enter Try.func12, Try.ntmps12
  go_wp2_with fail
  refine (begin32 h hl).mono ?_
  rintro e w' ⟨bv', rfl, hq⟩
  go_wp2
  go_end0
  exact ⟨bv', rfl, hq⟩
end
end Go.Proofs.Qxb6600175a
