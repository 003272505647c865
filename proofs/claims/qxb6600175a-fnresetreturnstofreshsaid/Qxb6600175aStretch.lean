/-
  appendStretch (33, 13).
-/
import Derived.Test.Qxb6600175aBegin
import Derived.Deep.RegionHeld3
namespace Go.Proofs.Qxb6600175a
open Go.RowKit
set_option linter.unusedVariables false

theorem Try.info50 : (Try.prog.info? 50).map (fun i => (i.zero, i.size, i.bytes)) = some (some (.agg #[.int .i64 0, .slice none 0 0]), 2, 32) := by kernel_rfl

section
variable {R : Nat → Prop} {w : World} {f : Nat} {bv lv : Value} {bs : List Int} {ls : List (Int × Value × List Int)} {hd fr sz : Int} {pv : Value} {ps : List Int}

set_option maxHeartbeats 1000000 in
set_option maxRecDepth 100000 in
theorem stretch33_short (h : Wr R w f bv lv bs ls hd fr sz) (hp : Rd R w pv (bcells ps)) (hs : ps.length < 512) (hl : bs.length ≤ 1099511627776) :
    Calls Try.prog 33 #[.pointer (some ⟨f, 0, none⟩), pv] w fun e w' => ∃ bv', e = .returned (.tuple #[]) ∧ Wr R w' f bv' lv (bs ++ ps) ls hd fr (wrap64 (sz + ps.length)) ∧ Keep R w w' := by
  obtain ⟨ad, cap, rfl, _, _⟩ := ownsRow_form h.wk.buf
  obtain ⟨pa, pc, hpv, _⟩ := id hp
  rw [bcells_length] at hpv
  subst hpv
  obtain ⟨c0, c1, c2, c3, c4⟩ := h.wk.cells
  have fz := h.wk.free
  obtain ⟨i0, hi, hz0, hz1, hz2⟩ := info_parts Try.info5
  have hmx : bs.length + (bcells ps).length ≤ maxLen := by rw [bcells_length]; unfold maxLen; omega
  have hbx : (bs.length + (bcells ps).length) * 1 ≤ 140737488355328 := by rw [bcells_length]; omega
  go_enter Try.func33, Try.ntmps33
  go_wp2_with (at_builtin; (refine wpList_append_rd _ rfl (.tmp 11) (.tmp 12) 30 rfl 0 5 i0 (.int .u8 0) 1 Try.underlying30 hi hz0 hz1 hz2 rfl _ _ _ rfl h.wk.buf rfl hp (bcells_one _) hmx hbx (Nat.zero_le _) ?_))
  intro bv' w1 hown hgrow hat
  rw [bcells_length] at hown
  obtain ⟨hb1, H3, K3⟩ := h.bufTo (x := ps) rfl hown hgrow rfl hat
  obtain ⟨ad', cap', hv0, _, _⟩ := ownsRow_form H3.wk.buf
  have hv' : bv' = .slice ad' (bs.length + ps.length) cap' := by rw [hv0]; simp
  obtain ⟨d0, d1, d2, d3, d4, fz1⟩ := cells_of_five hb1
  have H4 := H3.setSize (wrap64 (sz + ps.length))
  have K4 := K3.trans (H3.keepSet 4 (.int .i64 (wrap64 (sz + ps.length))))
  clear hv0 H3 K3 hown hgrow hat hb1 c0 c1 c2 c3 c4 fz h hmx hbx
  rw [hv'] at H4 K4 ⊢
  have HA : Hid (_ ∧ _) := ⟨H4, K4⟩
  clear H4 K4
  go_wp2
  go_end0
  exact ⟨_, rfl, HA.out.1, HA.out.2⟩

theorem rd_long (w : World) (H : Nat) (hH : w.heap.size = H) (x : Int) (v : Value) : ∀ j u, [Value.int .i64 x, v][j]? = some u → (w.alloc (.cells #[.int .i64 x, v] 50)).cell? ((⟨H, 0, none⟩ : Addr).add j) = some u := by
  subst hH
  have := World.news_of_block (heap_alloc_new w (.cells #[.int .i64 x, v] 50))
  simpa using this

theorem hat_of {v : Value} {g n cap H : Nat} (h : v.ownBlock = some g ∨ g = H) : (Value.slice (some ⟨g, 0, none⟩) n cap).ownBlock = v.ownBlock ∨ (Value.slice (some ⟨g, 0, none⟩) n cap).ownBlock = some H := by
  rcases h with h | h
  · exact .inl h.symm
  · exact .inr (by rw [h]; rfl)

set_option maxHeartbeats 1000000 in
set_option maxRecDepth 100000 in
theorem stretch33_long (h : Wr R w f bv lv bs ls hd fr sz) (hp : Rd R w pv (bcells ps)) (hs : ¬ ps.length < 512) (hlp : ps.length ≤ 1099511627776) (hl : bs.length ≤ 1099511627776) (hll : ls.length ≤ 1099511627776) :
    Calls Try.prog 33 #[.pointer (some ⟨f, 0, none⟩), pv] w fun e w' => ∃ lv', e = .returned (.tuple #[]) ∧ Wr R w' f bv lv' bs (ls ++ [((bs.length : Int), pv, ps)]) hd fr (wrap64 (sz + ps.length)) ∧ Keep R w w' := by
  obtain ⟨ad, cap, hbv, _, _⟩ := ownsRow_form h.wk.buf
  obtain ⟨ad2, cap2, hlv, _, _⟩ := ownsRow_form h.wk.lng
  obtain ⟨pa, pc, hpv, _⟩ := id hp
  rw [bcells_length] at hpv
  subst hpv hbv hlv
  obtain ⟨c0, c1, c2, c3, c4⟩ := h.wk.cells
  have fz := h.wk.free
  obtain ⟨i0, hi, hz0, hz1, hz2⟩ := info_parts Try.info50
  have H2 := (h.alloc (.cells #[.int .i64 bs.length, .slice pa ps.length pc] 50)).drew
  have hn : ∀ j u, [Value.int .i64 bs.length, .slice pa ps.length pc][j]? = some u → (w.alloc (.cells #[.int .i64 bs.length, .slice pa ps.length pc] 50)).drew.cell? ((⟨w.heap.size, 0, none⟩ : Addr).add j) = some u := rd_long w w.heap.size rfl bs.length (.slice pa ps.length pc)
  have K2 : Keep R w (w.alloc (.cells #[.int .i64 bs.length, .slice pa ps.length pc] 50)).drew := ((Keep.refl _ _).alloc h.lt _).drew
  have hp2 := hp.keep K2
  have h1c : ∀ u ∈ [Value.int .i64 bs.length, .slice pa ps.length pc], u.oneCell' = true := by simp [Value.oneCell']
  have hmx : ls.length + 1 ≤ maxLen := by unfold maxLen; omega
  have hbx : (ls.length + 1) * 32 ≤ 140737488355328 := by omega
  go_enter Try.func33, Try.ntmps33
  go_wp2
  have hca : ∀ o, (w.alloc o).cell? ⟨f, 1, none⟩ = some (.slice ad2 ls.length cap2) := fun o => (World.cell?_alloc_lt _ _ _ (lt_of_block h.wk.blk)).trans c1
  have HH : Hid (_ ∧ _ ∧ _) := ⟨H2, hp2, hn⟩
  clear hp2 H2 hn
  go_region_law (refine step_append_lies _ rfl (.tmp 20) (.tmp 28) 48 rfl 0 50 i0 (.agg #[.int .i64 0, .slice none 0 0]) 2 32 Try.underlying48 hi hz0 hz1 hz2 rfl (by decide) (.slice ad2 ls.length cap2) ls.length (lcells ls) (by simp [Act.eval]) HH.out.1.wk.lng ⟨w.heap.size, 0, none⟩ 1 1 [Value.int .i64 bs.length, .slice pa ps.length pc] (by simp [Act.eval]) rfl HH.out.2.2 h1c (by omega) hmx hbx (Nat.zero_le _) (w.heap.size + 1) (by simp) ?_; intro g cp w1 hown hgrow hat hlt; obtain ⟨hb1, H3, K3⟩ := HH.out.1.lngTo (p := ((bs.length : Int), Value.slice pa ps.length pc, ps)) (H := w.heap.size + 1) HH.out.2.1 hown hgrow (by simp) (hat_of hat); obtain ⟨d0, d1, d2, d3, d4, fz1⟩ := cells_of_five hb1; have H4 := H3.setSize (wrap64 (sz + ps.length)); have K4 := (K2.trans K3).trans (H3.keepSet 4 (.int .i64 (wrap64 (sz + ps.length)))); have HA : Hid (_ ∧ _) := ⟨H4, K4⟩; clear H4 K4 H3 K3 hown hgrow hat hb1)
  all_goals
    go_wp2
    go_end0
    exact ⟨_, rfl, HA.out.1, HA.out.2⟩

theorem stretch_short (h : Wr R w f bv lv bs ls hd fr sz) (hp : Rd R w pv (bcells ps)) (hs : ps.length < 512) (hl : bs.length ≤ 1099511627776) :
    Calls Try.prog 13 #[.pointer (some ⟨f, 0, none⟩), pv] w fun e w' => ∃ bv', e = .returned (.tuple #[]) ∧ Wr R w' f bv' lv (bs ++ ps) ls hd fr (wrap64 (sz + ps.length)) ∧ Keep R w w' := by
  go_enter Try.func13, Try.ntmps13
  go_wp2_with fail
  refine (stretch33_short h hp hs hl).mono ?_
  rintro e w' ⟨bv', rfl, hq⟩
  go_wp2
  go_end0
  exact ⟨bv', rfl, hq⟩
theorem stretch_long (h : Wr R w f bv lv bs ls hd fr sz) (hp : Rd R w pv (bcells ps)) (hs : ¬ ps.length < 512) (hlp : ps.length ≤ 1099511627776) (hl : bs.length ≤ 1099511627776) (hll : ls.length ≤ 1099511627776) :
    Calls Try.prog 13 #[.pointer (some ⟨f, 0, none⟩), pv] w fun e w' => ∃ lv', e = .returned (.tuple #[]) ∧ Wr R w' f bv lv' bs (ls ++ [((bs.length : Int), pv, ps)]) hd fr (wrap64 (sz + ps.length)) ∧ Keep R w w' := by
  go_enter Try.func13, Try.ntmps13
  go_wp2_with fail
  refine (stretch33_long h hp hs hlp hl hll).mono ?_
  rintro e w' ⟨lv', rfl, hq⟩
  go_wp2
  go_end0
  exact ⟨lv', rfl, hq⟩
/-- both ways in one: bytes and longs behind a stretch -/
def appBs (bs ps : List Int) : List Int := if ps.length < 512 then bs ++ ps else bs
def appLs (bs : List Int) (ls : List (Int × Value × List Int)) (pv : Value) (ps : List Int) : List (Int × Value × List Int) := if ps.length < 512 then ls else ls ++ [((bs.length : Int), pv, ps)]
theorem stretch_any (h : Wr R w f bv lv bs ls hd fr sz) (hp : Rd R w pv (bcells ps)) (hlp : ps.length ≤ 1099511627776) (hl : bs.length ≤ 1099511627776) (hll : ls.length ≤ 1099511627776) :
    Calls Try.prog 13 #[.pointer (some ⟨f, 0, none⟩), pv] w fun e w' => ∃ bv' lv', e = .returned (.tuple #[]) ∧ Wr R w' f bv' lv' (appBs bs ps) (appLs bs ls pv ps) hd fr (wrap64 (sz + ps.length)) ∧ Keep R w w' := by
  unfold appBs appLs
  by_cases hs : ps.length < 512
  · rw [if_pos hs, if_pos hs]
    exact (stretch_short h hp hs hl).mono fun e w' ⟨bv', a, b⟩ => ⟨bv', lv, a, b⟩
  · rw [if_neg hs, if_neg hs]
    exact (stretch_long h hp hs hlp hl hll).mono fun e w' ⟨lv', a, b⟩ => ⟨bv, lv', a, b⟩
end
end Go.Proofs.Qxb6600175a
