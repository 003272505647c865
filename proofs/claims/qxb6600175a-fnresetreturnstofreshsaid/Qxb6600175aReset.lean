/-
  reset (34, 27): the built-in clear on a row of the call's own; the walk.
-/
import Derived.Test.Qxb6600175aStretch
import Derived.Deep.CutRange
namespace Go.Proofs.Qxb6600175a
open Go.RowKit
set_option linter.unusedVariables false

/-- clear(s), s a row of the call's own: its cells turn, nothing else does -/
theorem run_clear_own {P : Program} (w : World) (base : Nat) (t ty e : TypeId) (i : TypeInfo) (z : Value) (size : Nat) (ht : P.underlying t = some (.slice e)) (hi : P.info? e = some i) (hz : i.zero = some z) (hzs : z.cells.size = size) (hz1 : ∀ u ∈ z.cells, u.oneCell' = true) (hp : 0 < size)
    (v : Value) (n : Nat) (xs : List Value) (hown : w.ownsRow base e size v n xs) :
    ∃ w' xs', (Builtin.clear_ #[t] ty #[v]).run P w = .ok (.tuple #[]) w' ∧ w'.ownsRow base e size v n xs' ∧ w.grownBy w' v.ownBlock := by
  rcases hown.2 with ⟨rfl, rfl⟩ | ⟨g, cap, cur, rfl, hb, hg, hnc, hcm, hcs, htake⟩
  · exact ⟨w, xs, by simp [Builtin.clear_, run_underlying ht], hown, World.grownBy.refl _ _⟩
  · cases n with
    | zero => exact ⟨w, xs, by simp [Builtin.clear_, run_underlying ht], hown, World.grownBy.refl _ _⟩
    | succ m =>
      have hsz : (Builtin.zeroCells z.cells (m + 1)).toList.length = (m + 1) * size := by
        rw [Array.length_toList, size_zeroCells, hzs]
      have hfit : 0 + 0 + (Builtin.zeroCells z.cells (m + 1)).toList.length ≤ cur.size := by
        rw [hsz, hcs]; simp only [Nat.zero_add]; exact Nat.mul_le_mul_right _ hnc
      have hone : ∀ u ∈ (Builtin.zeroCells z.cells (m + 1)).toList, u.oneCell' = true := by
        intro u hu
        simp only [Builtin.zeroCells, Array.toList_map, List.mem_map] at hu
        obtain ⟨j, _, rfl⟩ := hu
        have hj : j % z.cells.size < z.cells.size := Nat.mod_lt _ (by omega)
        rw [getElem!_pos z.cells (j % z.cells.size) hj]
        exact hz1 _ (Array.getElem_mem hj)
      have hr := run_storeCells_at P g 0 e (Builtin.zeroCells z.cells (m + 1)).toList 0 cur w hg hfit hone
      obtain ⟨row, hrow⟩ : ∃ row, row = (cur.toList.take (0 + 0) ++ (Builtin.zeroCells z.cells (m + 1)).toList ++ cur.toList.drop (0 + 0 + (Builtin.zeroCells z.cells (m + 1)).toList.length)).toArray := ⟨_, rfl⟩
      rw [← hrow] at hr
      refine ⟨w.setRow g row, (Builtin.zeroCells z.cells (m + 1)).toList, ?_, ⟨hsz, .inr ⟨g, cap, row, rfl, hb, setRow_heap w g cur row e _ hg, hnc, hcm, ?_, ?_⟩⟩, ⟨rfl, rfl, rfl, by simp, fun k _ hk => setRow_other w g k row (fun e => hk (by simp [Value.ownBlock, e]))⟩⟩
      · simp [Builtin.clear_, run_underlying ht, zeroValue, typeInfo, hi, hz, hr]
      · rw [hrow]
        simp only [List.size_toArray, List.length_append, List.length_take, List.length_drop, Array.length_toList]
        rw [Array.length_toList] at hfit
        omega
      · rw [hrow]
        simp only [Nat.zero_add, List.take_zero, List.nil_append]
        rw [← hsz]; exact List.take_left

theorem wpList_clear_own {P : Program} (w : World) {ops : Array Oper} {rest : List Oper} {o : Oper} {a : Act} {Q : Exit → Act → World → Prop} (hgd : o.guard = none) (s : Operand) (t : TypeId)
    (ho : o.op = .call { callee := .builtin .clear, args := #[s], argTypes := #[t] })
    (base : Nat) (e : TypeId) (i : TypeInfo) (z : Value) (size : Nat) (ht : P.underlying t = some (.slice e)) (hi : P.info? e = some i) (hz : i.zero = some z) (hzs : z.cells.size = size) (hz1 : ∀ u ∈ z.cells, u.oneCell' = true) (hp : 0 < size)
    (v : Value) (n : Nat) (xs : List Value) (hs : a.eval s = v) (hown : w.ownsRow base e size v n xs)
    (h : ∀ w' xs', w'.ownsRow base e size v n xs' → w.grownBy w' v.ownBlock → wpList P ops Q rest (a.put o.dst (.tuple #[])) w') : wpList P ops Q (o :: rest) a w := by
  refine wpList_plain hgd fun K hK => ?_
  obtain ⟨w', xs', hr, h2, h3⟩ := run_clear_own (P := P) w base t o.type e i z size ht hi hz hzs hz1 hp v n xs hown
  unfold Oper.wp
  simp [execOp, ho, resolve, invoke, builtin, hs, hr, Result.andThen]
  exact hK _ _ (h w' xs' h2 h3)

/-- the head of a row, cut at nought -/
theorem ownsRow_cut0 {w : World} {base e size g n cap : Nat} {xs : List Value} (h : w.ownsRow base e size (.slice (some ⟨g, 0, none⟩) n cap) n xs) : w.ownsRow base e size (.slice (some ⟨g, 0, none⟩) 0 cap) 0 [] := by
  rcases h.2 with ⟨e, _⟩ | ⟨g', cap', cur, e, hb, hg, h1, h2, h3, _⟩
  · simp at e
  · simp at e
    obtain ⟨rfl, rfl⟩ := e
    exact ⟨by simp, .inr ⟨g, cap, cur, rfl, hb, hg, Nat.zero_le _, h2, h3, by simp⟩⟩
section
variable {R : Nat → Prop} {w : World} {f : Nat} {bv lv : Value} {bs : List Int} {ls : List (Int × Value × List Int)} {hd fr sz : Int}

/-- buf is set to a row that holds nothing -/
theorem Wr.setBuf0 (h : Wr R w f bv lv bs ls hd fr sz) {bv' : Value} (ho : w.ownsRow 0 5 1 bv' 0 []) (hn : ∀ k, bv'.ownBlock = some k → ¬ R k) : Wr R (w.setCell ⟨f, 0, none⟩ bv') f bv' lv [] ls hd fr sz := by
  obtain ⟨a, b, c, d, _⟩ := h.storeOther 0 bv'
  exact ⟨⟨by rw [heap_set h.wk.blk]; rfl, ownsRow_setCell_other ho (ownsRow_ne_block ho h.wk.blk (by decide)) _, b⟩, c, h.nf, hn, h.nl, d⟩
/-- longs is set to a row that holds nothing -/
theorem Wr.setLng0 (h : Wr R w f bv lv bs ls hd fr sz) {lv' : Value} (ho : w.ownsRow 0 50 2 lv' 0 []) (hn : ∀ k, lv'.ownBlock = some k → ¬ R k) : Wr R (w.setCell ⟨f, 1, none⟩ lv') f bv lv' bs [] hd fr sz := by
  obtain ⟨a, b, c, d, _⟩ := h.storeOther 1 lv'
  exact ⟨⟨by rw [heap_set h.wk.blk]; rfl, a, ownsRow_setCell_other ho (ownsRow_ne_block ho h.wk.blk (by decide)) _⟩, by simp, h.nf, h.nb, hn, d⟩
/-- the longs' cells have been turned: what stays -/
theorem Wr.cleared (h : Wr R w f bv lv bs ls hd fr sz) {w1 : World} {xs : List Value} (hown : w1.ownsRow 0 50 2 lv ls.length xs) (hg : w.grownBy w1 lv.ownBlock) :
    w1.heap[f]? = some (.cells #[bv, lv, .int .i64 hd, .int .i64 fr, .int .i64 sz] 52 (0, 0)) ∧ Keep R w w1 ∧
    ∀ lv', w1.ownsRow 0 50 2 lv' 0 [] → (∀ k, lv'.ownBlock = some k → ¬ R k) → Wr R (w1.setCell ⟨f, 1, none⟩ lv') f bv lv' bs [] hd fr sz ∧ Keep R w (w1.setCell ⟨f, 1, none⟩ lv') := by
  have hbf := ownsRow_ne_block h.wk.lng h.wk.blk (by decide)
  have hb1 : w1.heap[f]? = some (.cells #[bv, lv, .int .i64 hd, .int .i64 fr, .int .i64 sz] 52 (0, 0)) := (hg.block f (lt_of_block h.wk.blk) (fun e => hbf e.symm)).trans h.wk.blk
  have hk1 : Keep R w w1 := (Keep.refl _ _).grown hg h.lt h.nl
  have hbuf : w1.ownsRow 0 5 1 bv bs.length (bcells bs) := ownsRow_block h.wk.buf (fun k hk' => hg.block k (ownsRow_lt h.wk.buf hk').2 (fun e => ownsRow_ne h.wk.buf h.wk.lng (by decide) hk' e.symm))
  refine ⟨hb1, hk1, fun lv' ho hn => ?_⟩
  have hk : Keep R w (w1.setCell ⟨f, 1, none⟩ lv') := hk1.setCell h.nf _
  refine ⟨⟨⟨by rw [heap_set hb1]; rfl, ownsRow_setCell_other hbuf (ownsRow_ne_block hbuf hb1 (by decide)) _, ownsRow_setCell_other ho (ownsRow_ne_block ho hb1 (by decide)) _⟩, by simp, h.nf, h.nb, hn, fun k hk' => ?_⟩, hk⟩
  have := h.lt k hk'
  have := hk.size
  omega

set_option maxHeartbeats 2000000 in
set_option maxRecDepth 100000 in
theorem reset34 (h : Wr R w f bv lv bs ls hd fr sz) :
    Calls Try.prog 34 #[.pointer (some ⟨f, 0, none⟩)] w fun e w' => ∃ bv' lv', e = .returned (.tuple #[]) ∧ Wr R w' f bv' lv' [] [] hd fr 0 ∧ Keep R w w' := by
  obtain ⟨i0, hi, hz0, hz1, hz2⟩ := info_parts Try.info50
  have HW : Hid (Wr R w f bv lv bs ls hd fr sz) := h
  clear h
  go_enter Try.func34, Try.ntmps34
  go_upto_region 0 with (fail)
  go_cut [] from 2 (fun wx => ∃ ad cap, Wr R wx f (.slice ad 0 cap) lv [] ls hd fr sz ∧ cap ≤ maxLen ∧ Keep R w wx)
  case first =>
    obtain ⟨c0, c1, c2, c3, c4⟩ := HW.out.wk.cells
    have fz := HW.out.wk.free
    rcases HW.out.wk.buf.2 with ⟨e1, e2⟩ | ⟨g, cap, cur, e1, _⟩
    · rw [e1] at c0
      have HN : Hid (_ ∧ _) := ⟨HW.out.setBuf0 (bv' := .slice none 0 0) (World.ownsRow_nil _ _ _ _) (by simp [Value.ownBlock]), HW.out.keepSet 0 (.slice none 0 0)⟩
      clear e1 e2
      go_wp2
      go_meet
      case rel => exact ⟨none, 0, HN.out.1, Nat.zero_le _, HN.out.2⟩
    · obtain ⟨_, _, e3, hnc, hcm⟩ := ownsRow_form HW.out.wk.buf
      rw [e1] at c0 e3
      simp only [Value.slice.injEq] at e3
      obtain ⟨rfl, _, rfl⟩ := e3
      have hb0 := HW.out.wk.buf
      rw [e1] at hb0
      have HN : Hid (_ ∧ _) := ⟨HW.out.setBuf0 (bv' := .slice (some ⟨g, 0, none⟩) 0 cap) (ownsRow_cut0 hb0) (fun k hk => HW.out.nb k (by rw [e1]; exact hk)), HW.out.keepSet 0 (.slice (some ⟨g, 0, none⟩) 0 cap)⟩
      clear e1 hb0
      go_wp2
      go_meet
      case rel => exact ⟨some ⟨g, 0, none⟩, cap, HN.out.1, hcm, HN.out.2⟩
  case rest =>
    obtain ⟨ad, cap, hw1, hcm, hk1⟩ := hcut
    unfold maxLen at hcm
    obtain ⟨c0, c1, c2, c3, c4⟩ := hw1.wk.cells
    have fz := hw1.wk.free
    have HW1 : Hid (Wr R wc f (.slice ad 0 cap) lv [] ls hd fr sz ∧ Keep R w wc) := ⟨hw1, hk1⟩
    clear hw1 hk1 HW
    go_upto_if 15 with (fail)
    go_cut [] from 2 (fun wx => ∃ bv', Wr R wx f bv' lv [] ls hd fr sz ∧ Keep R w wx)
    case first =>
      by_cases hb : cap ≤ 65536
      · go_wp2
        go_meet
        case rel => exact ⟨_, HW1.out.1, HW1.out.2⟩
      · have HN : Hid (_ ∧ _) := ⟨HW1.out.1.setBuf0 (bv' := .slice none 0 0) (World.ownsRow_nil _ _ _ _) (by simp [Value.ownBlock]), HW1.out.1.keepSet 0 (.slice none 0 0)⟩
        go_wp2
        go_meet
        case rel => exact ⟨_, HN.out.1, HW1.out.2.trans HN.out.2⟩
    case rest =>
      clear HW1 c0 c1 c2 c3 c4 fz hcm
      rename_i wb
      obtain ⟨bv', hw2, hk2⟩ := hcut
      obtain ⟨c0, c1, c2, c3, c4⟩ := hw2.wk.cells
      have HW2 : Hid (_ ∧ _) := ⟨hw2, hk2⟩
      clear hw2 hk2
      go_upto_region 4 with (refine wpList_clear_own _ rfl (.tmp 22) 48 rfl 0 50 i0 (.agg #[.int .i64 0, .slice none 0 0]) 2 Try.underlying48 hi hz0 rfl (by simp [Value.cells, Value.oneCell']) (by decide) lv ls.length (lcells ls) rfl HW2.out.1.wk.lng ?_; intro w3 xs3 hown3 hgrow3)
      obtain ⟨hb3, hk3, hset⟩ := HW2.out.1.cleared hown3 hgrow3
      obtain ⟨d0, d1, d2, d3, d4, fz3⟩ := cells_of_five hb3
      have HW3 : Hid (Keep R w w3 ∧ ∀ lv', w3.ownsRow 0 50 2 lv' 0 [] → (∀ k, lv'.ownBlock = some k → ¬ R k) → Wr R (w3.setCell ⟨f, 1, none⟩ lv') f bv' lv' [] [] hd fr sz ∧ Keep R w (w3.setCell ⟨f, 1, none⟩ lv')) :=
        ⟨HW2.out.2.trans hk3, fun lv' a b => ⟨(hset lv' a b).1, HW2.out.2.trans (hset lv' a b).2⟩⟩
      have HO3 : Hid (w3.ownsRow 0 50 2 lv ls.length xs3 ∧ ∀ k, lv.ownBlock = some k → ¬ R k) := ⟨hown3, HW2.out.1.nl⟩
      clear hown3 hgrow3 hb3 hk3 hset HW2 c0 c1 c2 c3 c4
      simp only [Act.put]
      go_cut [] from 2 (fun wx => ∃ ad2 cap2, Wr R wx f bv' (.slice ad2 0 cap2) [] [] hd fr sz ∧ cap2 ≤ maxLen ∧ Keep R w wx)
      case first =>
        rcases HO3.out.1.2 with ⟨e1, e2⟩ | ⟨g, cap3, cur, e1, _, _, _, hcm3, _⟩
        · rw [e1] at d1
          have HN := HW3.out.2 (.slice none 0 0) (World.ownsRow_nil _ _ _ _) (by simp [Value.ownBlock])
          have HN' : Hid _ := HN
          clear e1 e2 HN
          go_wp2
          go_meet
          case rel => exact ⟨none, 0, HN'.out.1, Nat.zero_le _, HN'.out.2⟩
        · rw [e1] at d1
          have hb0 := HO3.out.1
          rw [e1] at hb0
          have HN := HW3.out.2 (.slice (some ⟨g, 0, none⟩) 0 cap3) (ownsRow_cut0 hb0) (fun k hk => HO3.out.2 k (by rw [e1]; exact hk))
          have HN' : Hid _ := HN
          clear e1 hb0 HN
          go_wp2
          go_meet
          case rel => exact ⟨some ⟨g, 0, none⟩, cap3, HN'.out.1, hcm3, HN'.out.2⟩
      case rest =>
        clear d0 d1 d2 d3 d4 fz3 HW3 HO3
        obtain ⟨ad2, cap2, hw4, hcm4, hk4⟩ := hcut
        unfold maxLen at hcm4
        obtain ⟨c0, c1, c2, c3, c4⟩ := hw4.wk.cells
        have fz := hw4.wk.free
        have HW4 : Hid (_ ∧ _) := ⟨hw4, hk4⟩
        clear hw4 hk4
        go_upto_if 36 with (fail)
        go_cut [] from 2 (fun wx => ∃ lv', Wr R wx f bv' lv' [] [] hd fr sz ∧ Keep R w wx)
        case first =>
          by_cases hb : cap2 ≤ 1024
          · go_wp2
            go_meet
            case rel => exact ⟨_, HW4.out.1, HW4.out.2⟩
          · have HN : Hid (_ ∧ _) := ⟨HW4.out.1.setLng0 (lv' := .slice none 0 0) (World.ownsRow_nil _ _ _ _) (by simp [Value.ownBlock]), HW4.out.1.keepSet 1 (.slice none 0 0)⟩
            go_wp2
            go_meet
            case rel => exact ⟨_, HN.out.1, HW4.out.2.trans HN.out.2⟩
        case rest =>
          clear HW4 c0 c1 c2 c3 c4 fz hcm4
          obtain ⟨lv', hw5, hk5⟩ := hcut
          obtain ⟨c0, c1, c2, c3, c4⟩ := hw5.wk.cells
          have fz := hw5.wk.free
          have HN : Hid (_ ∧ _) := ⟨hw5.setSize 0, hk5.trans (hw5.keepSet 4 (.int .i64 0))⟩
          clear hw5 hk5
          go_wp2
          go_end0
          exact ⟨bv', lv', rfl, HN.out.1, HN.out.2⟩

theorem reset_any (h : Wr R w f bv lv bs ls hd fr sz) :
    Calls Try.prog 27 #[.pointer (some ⟨f, 0, none⟩)] w fun e w' => ∃ bv' lv', e = .returned (.tuple #[]) ∧ Wr R w' f bv' lv' [] [] hd fr 0 ∧ Keep R w w' := by
  go_enter Try.func27, Try.ntmps27
  go_wp2_with fail
  refine (reset34 h).mono ?_
  rintro e w' ⟨bv', lv', rfl, hq⟩
  go_wp2
  go_end0
  exact ⟨bv', lv', rfl, hq⟩
end
end Go.Proofs.Qxb6600175a
