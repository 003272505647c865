/-
  zzCloneBytes (25), zzCloneInts (26), zzCloneBools (10): a new row with the same cells; nothing old turns.
-/
import Derived.Test.Qxb6600175aMem
import Derived.Test.Qxb6600175aRows
namespace Go.Proofs.Qxb6600175a
open Go.RowKit

theorem Try.info5 : (Try.prog.info? 5).map (fun i => (i.zero, i.size, i.bytes)) = some (some (.int .u8 0), 1, 1) := by kernel_rfl
theorem Try.info3 : (Try.prog.info? 3).map (fun i => (i.zero, i.size, i.bytes)) = some (some (.int .i64 0), 1, 8) := by kernel_rfl
theorem Try.info4 : (Try.prog.info? 4).map (fun i => (i.zero, i.size, i.bytes)) = some (some (.bool false), 1, 1) := by kernel_rfl
theorem Try.size5 : (Try.prog.info? 5).map (·.size) = some 1 := by kernel_rfl
theorem Try.size3 : (Try.prog.info? 3).map (·.size) = some 1 := by kernel_rfl
theorem Try.size4 : (Try.prog.info? 4).map (·.size) = some 1 := by kernel_rfl

theorem splice_all {α : Type} (L cs : List α) (h : L.length = cs.length) : splice L 0 cs = cs := by
  simp [splice, ← h]

/-- what a clone leaves -/
theorem own_of_row {w : World} {g e n : Nat} {cs : List Value} (hn : cs.length = n) (hm : n ≤ maxLen) (h : w.heap[g]? = some (.cells cs.toArray e (0, 0))) : w.ownsRow g e 1 (.slice (some ⟨g, 0, none⟩) n n) n cs := by
  refine ⟨by simpa using hn, .inr ⟨g, n, _, rfl, Nat.le_refl _, h, Nat.le_refl _, hm, by simpa using hn, ?_⟩⟩
  simp [← hn]

set_option maxHeartbeats 400000 in
theorem cloneBytes_any {R : Nat → Prop} (v : Value) (cs : List Value) (w : World) (h : Rd R w v cs) (h1c : ∀ u ∈ cs, u.oneCell' = true) (hl : cs.length ≤ 1099511627776) :
    Calls Try.prog 25 #[v] w fun e w' => ∃ v', e = .returned v' ∧ w'.ownsRow w.heap.size 5 1 v' cs.length cs ∧ Below w.heap.size w w' := by
  have q30 : ∀ (w : World) (a : Option Addr) (n c n' c' : Nat), (binOp .eql 30 (.slice a n c) (.slice none n' c')).run Try.prog w = .ok (.bool a.isNone) w := fun w a n c n' c' => Lib.run_eql_slice_nil w _ _ a n c n' c' Try.underlying30
  obtain ⟨ad, cap, rfl, h1, h2, h3, h4⟩ := h
  obtain ⟨n, hn⟩ : ∃ n, cs.length = n := ⟨_, rfl⟩
  have HN : Hid (cs.length = n) := hn
  rw [hn] at hl h1 ⊢
  cases ad with
  | none =>
    have h0 : cap = 0 := h3 rfl
    obtain rfl : n = 0 := by omega
    obtain rfl : cs = [] := List.eq_nil_of_length_eq_zero hn
    clear h1 h2 h3 h4 hn HN
    subst h0
    go_enter Try.func25, Try.ntmps25
    go_wp2
    go_ret
    exact ⟨_, rfl, World.ownsRow_nil _ _ _ _, Below.refl _ _⟩
  | some a =>
    have hm : n ≤ maxLen := by unfold maxLen; omega
    obtain ⟨i0, hi, hz0, hz1, hz2⟩ := info_parts Try.info5
    have hpos : 0 < cs.length → ∀ (w1 : World), Below w.heap.size w w1 → ∀ j u, cs[j]? = some u → w1.cell? (a.add j) = some u := by
      intro hp w1 hb j u hu
      obtain ⟨b, off, e1, _, hc⟩ := h4 (by intro e; subst e; simp at hp)
      obtain rfl := Option.some.inj e1
      rw [Addr.add_lit]
      exact cell_later hb (hc j u hu)
    have HP : Hid (0 < cs.length → ∀ (w1 : World), Below w.heap.size w w1 → ∀ j u, cs[j]? = some u → w1.cell? (a.add j) = some u) := hpos
    clear hpos h4 h3 hn
    go_enter Try.func25, Try.ntmps25
    go_wp2_with (at_make; refine wpList_make_full _ rfl _ _ 30 rfl w.heap.size 5 i0 (.int .u8 0) 1 Try.underlying30 hi hz0 hz1 .i64 .i64 _ _ n rfl rfl rfl rfl ?b2 ?b3 ?b4 ?_)
    case b2 => rw [hz2]; omega
    case b3 => exact hm
    case b4 => exact Nat.le_refl _
    intro w1 hown hgrow
    have hb1 : Below w.heap.size w w1 := (Below.refl _ _).grown hgrow (Nat.le_refl _) (fun k hk => by cases hk)
    have hrow : ∃ cur : List Value, cur.length = n ∧ w1.heap[w.heap.size]? = some (.cells cur.toArray 5 (0, 0)) := by
      rcases hown.2 with ⟨e, _⟩ | ⟨g, cp, cur, e, _, hg, _, _, hs, _⟩
      · simp at e
      · simp at e
        obtain ⟨rfl, rfl⟩ := e
        exact ⟨cur.toList, by simpa using hs, by simpa using hg⟩
    obtain ⟨cur, hcl, hcur⟩ := hrow
    have HC : Hid (w1.heap[w.heap.size]? = some (.cells cur.toArray 5 (0, 0))) := hcur
    have HL : Hid (cur.length = n) := hcl
    clear hcur hown hgrow hcl
    go_wp2_with (refine wpList_copy_splice rfl (.tmp 9) (.tmp 10) 30 30 rfl 5 Try.underlying30 Try.size5 (some ⟨w.heap.size, 0, none⟩) (some a) n n n cap rfl rfl w.heap.size 0 cur 5 HC.out cs ?c1 ?c2 ?c3 h1c w.heap.size w hb1 (Nat.le_refl _) ?_)
    case c1 => rw [HN.out]; simp
    case c2 => exact fun hp => HP.out hp w1 hb1
    case c3 => have := HN.out; have := HL.out; omega
    intro w2 HG2 hB2
    rw [splice_all _ _ (HL.out.trans HN.out.symm)] at HG2
    go_wp2
    go_ret
    exact ⟨_, rfl, own_of_row HN.out hm HG2.out, hB2⟩

set_option maxHeartbeats 400000 in
theorem cloneInts_any {R : Nat → Prop} (v : Value) (cs : List Value) (w : World) (h : Rd R w v cs) (h1c : ∀ u ∈ cs, u.oneCell' = true) (hl : cs.length ≤ 1099511627776) :
    Calls Try.prog 26 #[v] w fun e w' => ∃ v', e = .returned v' ∧ w'.ownsRow w.heap.size 3 1 v' cs.length cs ∧ Below w.heap.size w w' := by
  have q31 : ∀ (w : World) (a : Option Addr) (n c n' c' : Nat), (binOp .eql 31 (.slice a n c) (.slice none n' c')).run Try.prog w = .ok (.bool a.isNone) w := fun w a n c n' c' => Lib.run_eql_slice_nil w _ _ a n c n' c' Try.underlying31
  obtain ⟨ad, cap, rfl, h1, h2, h3, h4⟩ := h
  obtain ⟨n, hn⟩ : ∃ n, cs.length = n := ⟨_, rfl⟩
  have HN : Hid (cs.length = n) := hn
  rw [hn] at hl h1 ⊢
  cases ad with
  | none =>
    have h0 : cap = 0 := h3 rfl
    obtain rfl : n = 0 := by omega
    obtain rfl : cs = [] := List.eq_nil_of_length_eq_zero hn
    clear h1 h2 h3 h4 hn HN
    subst h0
    go_enter Try.func26, Try.ntmps26
    go_wp2
    go_ret
    exact ⟨_, rfl, World.ownsRow_nil _ _ _ _, Below.refl _ _⟩
  | some a =>
    have hm : n ≤ maxLen := by unfold maxLen; omega
    obtain ⟨i0, hi, hz0, hz1, hz2⟩ := info_parts Try.info3
    have hpos : 0 < cs.length → ∀ (w1 : World), Below w.heap.size w w1 → ∀ j u, cs[j]? = some u → w1.cell? (a.add j) = some u := by
      intro hp w1 hb j u hu
      obtain ⟨b, off, e1, _, hc⟩ := h4 (by intro e; subst e; simp at hp)
      obtain rfl := Option.some.inj e1
      rw [Addr.add_lit]
      exact cell_later hb (hc j u hu)
    have HP : Hid (0 < cs.length → ∀ (w1 : World), Below w.heap.size w w1 → ∀ j u, cs[j]? = some u → w1.cell? (a.add j) = some u) := hpos
    clear hpos h4 h3 hn
    go_enter Try.func26, Try.ntmps26
    go_wp2_with (at_make; refine wpList_make_full _ rfl _ _ 31 rfl w.heap.size 3 i0 (.int .i64 0) 1 Try.underlying31 hi hz0 hz1 .i64 .i64 _ _ n rfl rfl rfl rfl ?b2 ?b3 ?b4 ?_)
    case b2 => rw [hz2]; omega
    case b3 => exact hm
    case b4 => exact Nat.le_refl _
    intro w1 hown hgrow
    have hb1 : Below w.heap.size w w1 := (Below.refl _ _).grown hgrow (Nat.le_refl _) (fun k hk => by cases hk)
    have hrow : ∃ cur : List Value, cur.length = n ∧ w1.heap[w.heap.size]? = some (.cells cur.toArray 3 (0, 0)) := by
      rcases hown.2 with ⟨e, _⟩ | ⟨g, cp, cur, e, _, hg, _, _, hs, _⟩
      · simp at e
      · simp at e
        obtain ⟨rfl, rfl⟩ := e
        exact ⟨cur.toList, by simpa using hs, by simpa using hg⟩
    obtain ⟨cur, hcl, hcur⟩ := hrow
    have HC : Hid (w1.heap[w.heap.size]? = some (.cells cur.toArray 3 (0, 0))) := hcur
    have HL : Hid (cur.length = n) := hcl
    clear hcur hown hgrow hcl
    go_wp2_with (refine wpList_copy_splice rfl (.tmp 9) (.tmp 10) 31 31 rfl 3 Try.underlying31 Try.size3 (some ⟨w.heap.size, 0, none⟩) (some a) n n n cap rfl rfl w.heap.size 0 cur 3 HC.out cs ?c1 ?c2 ?c3 h1c w.heap.size w hb1 (Nat.le_refl _) ?_)
    case c1 => rw [HN.out]; simp
    case c2 => exact fun hp => HP.out hp w1 hb1
    case c3 => have := HN.out; have := HL.out; omega
    intro w2 HG2 hB2
    rw [splice_all _ _ (HL.out.trans HN.out.symm)] at HG2
    go_wp2
    go_ret
    exact ⟨_, rfl, own_of_row HN.out hm HG2.out, hB2⟩

set_option maxHeartbeats 400000 in
theorem cloneBools_any {R : Nat → Prop} (v : Value) (cs : List Value) (w : World) (h : Rd R w v cs) (h1c : ∀ u ∈ cs, u.oneCell' = true) (hl : cs.length ≤ 1099511627776) :
    Calls Try.prog 10 #[v] w fun e w' => ∃ v', e = .returned v' ∧ w'.ownsRow w.heap.size 4 1 v' cs.length cs ∧ Below w.heap.size w w' := by
  have q23 : ∀ (w : World) (a : Option Addr) (n c n' c' : Nat), (binOp .eql 23 (.slice a n c) (.slice none n' c')).run Try.prog w = .ok (.bool a.isNone) w := fun w a n c n' c' => Lib.run_eql_slice_nil w _ _ a n c n' c' Try.underlying23
  obtain ⟨ad, cap, rfl, h1, h2, h3, h4⟩ := h
  obtain ⟨n, hn⟩ : ∃ n, cs.length = n := ⟨_, rfl⟩
  have HN : Hid (cs.length = n) := hn
  rw [hn] at hl h1 ⊢
  cases ad with
  | none =>
    have h0 : cap = 0 := h3 rfl
    obtain rfl : n = 0 := by omega
    obtain rfl : cs = [] := List.eq_nil_of_length_eq_zero hn
    clear h1 h2 h3 h4 hn HN
    subst h0
    go_enter Try.func10, Try.ntmps10
    go_wp2
    go_ret
    exact ⟨_, rfl, World.ownsRow_nil _ _ _ _, Below.refl _ _⟩
  | some a =>
    have hm : n ≤ maxLen := by unfold maxLen; omega
    obtain ⟨i0, hi, hz0, hz1, hz2⟩ := info_parts Try.info4
    have hpos : 0 < cs.length → ∀ (w1 : World), Below w.heap.size w w1 → ∀ j u, cs[j]? = some u → w1.cell? (a.add j) = some u := by
      intro hp w1 hb j u hu
      obtain ⟨b, off, e1, _, hc⟩ := h4 (by intro e; subst e; simp at hp)
      obtain rfl := Option.some.inj e1
      rw [Addr.add_lit]
      exact cell_later hb (hc j u hu)
    have HP : Hid (0 < cs.length → ∀ (w1 : World), Below w.heap.size w w1 → ∀ j u, cs[j]? = some u → w1.cell? (a.add j) = some u) := hpos
    clear hpos h4 h3 hn
    go_enter Try.func10, Try.ntmps10
    go_wp2_with (at_make; refine wpList_make_full _ rfl _ _ 23 rfl w.heap.size 4 i0 (.bool false) 1 Try.underlying23 hi hz0 hz1 .i64 .i64 _ _ n rfl rfl rfl rfl ?b2 ?b3 ?b4 ?_)
    case b2 => rw [hz2]; omega
    case b3 => exact hm
    case b4 => exact Nat.le_refl _
    intro w1 hown hgrow
    have hb1 : Below w.heap.size w w1 := (Below.refl _ _).grown hgrow (Nat.le_refl _) (fun k hk => by cases hk)
    have hrow : ∃ cur : List Value, cur.length = n ∧ w1.heap[w.heap.size]? = some (.cells cur.toArray 4 (0, 0)) := by
      rcases hown.2 with ⟨e, _⟩ | ⟨g, cp, cur, e, _, hg, _, _, hs, _⟩
      · simp at e
      · simp at e
        obtain ⟨rfl, rfl⟩ := e
        exact ⟨cur.toList, by simpa using hs, by simpa using hg⟩
    obtain ⟨cur, hcl, hcur⟩ := hrow
    have HC : Hid (w1.heap[w.heap.size]? = some (.cells cur.toArray 4 (0, 0))) := hcur
    have HL : Hid (cur.length = n) := hcl
    clear hcur hown hgrow hcl
    go_wp2_with (refine wpList_copy_splice rfl (.tmp 9) (.tmp 10) 23 23 rfl 4 Try.underlying23 Try.size4 (some ⟨w.heap.size, 0, none⟩) (some a) n n n cap rfl rfl w.heap.size 0 cur 4 HC.out cs ?c1 ?c2 ?c3 h1c w.heap.size w hb1 (Nat.le_refl _) ?_)
    case c1 => rw [HN.out]; simp
    case c2 => exact fun hp => HP.out hp w1 hb1
    case c3 => have := HN.out; have := HL.out; omega
    intro w2 HG2 hB2
    rw [splice_all _ _ (HL.out.trans HN.out.symm)] at HG2
    go_wp2
    go_ret
    exact ⟨_, rfl, own_of_row HN.out hm HG2.out, hB2⟩

end Go.Proofs.Qxb6600175a
