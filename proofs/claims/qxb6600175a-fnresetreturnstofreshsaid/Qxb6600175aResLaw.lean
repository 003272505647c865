/-
  FnResetReturnsToFresh (4): the walk.
-/
import Derived.Test.Qxb6600175aReset
import Derived.Test.Qxb6600175aRun
import Derived.Test.Qxb6600175aSame
import Derived.Test.Qxb6600175aNew
import Derived.Test.Qxb6600175aCount2
namespace Go.Proofs.Qxb6600175a
open Go.RowKit
set_option linter.unusedVariables false

theorem Rd.formAny {R : Nat → Prop} {w : World} {v : Value} {cs : List Value} (h : Rd R w v cs) : ∃ ad cap, v = .slice ad cs.length cap ∧ cs.length ≤ maxLen := by
  obtain ⟨ad, cap, e, h1, h2, _⟩ := h
  exact ⟨ad, cap, e, by omega⟩

/-- behind New: the writer f over the clones, and what it may not touch; the ops and the begins are among that -/
theorem res_init {w w1 w2 w3 w4 w5 x : World} {bv lv v2 v6 v7 : Value} {bs ats : List Int} {q2 q6 : List (Value × List Int)} {bg : List Bool} {hd fr sz : Int}
    (h1 : w1.ownsRow w.heap.size 5 1 bv bs.length (bcells bs)) (b1 : Below w.heap.size w w1) (b2 : Below w1.heap.size w1 w2) (hq2 : RdC (fun k => w2.heap.size ≤ k) w3 v2 q2) (b3 : Below w2.heap.size w2 w3)
    (hq6 : RdC (fun k => w3.heap.size ≤ k) w4 v6 q6) (b4 : Below w3.heap.size w3 w4) (h7 : w5.ownsRow w4.heap.size 4 1 v7 bg.length (bg.map Value.bool)) (b5 : Below w4.heap.size w4 w5)
    (hl : x.ownsRow w5.heap.size 50 2 lv (ats.zip q2).length (lcells (ats.zip q2))) (b6 : Below w5.heap.size w5 x) :
    ∃ R : Nat → Prop, Wr R (x.alloc (.cells #[bv, lv, .int .i64 hd, .int .i64 fr, .int .i64 sz] 52)) x.heap.size bv lv bs (ats.zip q2) hd fr sz ∧ RdC R (x.alloc (.cells #[bv, lv, .int .i64 hd, .int .i64 fr, .int .i64 sz] 52)) v6 q6 ∧
      Rd R (x.alloc (.cells #[bv, lv, .int .i64 hd, .int .i64 fr, .int .i64 sz] 52)) v7 (bg.map Value.bool) ∧ (∀ k, k < w.heap.size → R k) ∧ Below w.heap.size w (x.alloc (.cells #[bv, lv, .int .i64 hd, .int .i64 fr, .int .i64 sz] 52)) := by
  have s1 := b1.size
  have s2 := b2.size
  have s3 := b3.size
  have s4 := b4.size
  have s5 := b5.size
  have s6 := b6.size
  have b45 : Below w4.heap.size w4 x := b5.trans (b6.mono s5)
  have b35 : Below w3.heap.size w3 w5 := b4.trans (b5.mono s4)
  have b25 : Below w2.heap.size w2 w5 := b3.trans (b35.mono s3)
  have b15 : Below w1.heap.size w1 w5 := b2.trans (b25.mono s2)
  have b05 : Below w.heap.size w w5 := b1.trans (b15.mono s1)
  have hbx : Below w.heap.size w x := b05.trans (b6.mono (by omega))
  have hW : WIn w.heap.size (x.alloc (.cells #[bv, lv, .int .i64 hd, .int .i64 fr, .int .i64 sz] 52)) x.heap.size bv lv bs (ats.zip q2) hd fr sz :=
    WIn.make (u := w5) (ownsRow_block h1 (fun k hk => b15.block k (ownsRow_lt h1 hk).2)) ((hq2.later b35).mono (fun k a _ => ⟨by omega, fun e => by have := (ownsRow_lt h1 e).2; omega⟩)) (by omega) hl b6
  have ap : ∀ k, w1.heap.size ≤ k → k < w5.heap.size → k < (x.alloc (.cells #[bv, lv, .int .i64 hd, .int .i64 fr, .int .i64 sz] 52)).heap.size ∧ Apart x.heap.size bv lv k := fun k a b =>
    ⟨by simp; omega, by omega, fun e => by have := (ownsRow_lt h1 e).2; omega, fun e => by have := (ownsRow_lt hl e).1; omega⟩
  have bxa : Below x.heap.size x (x.alloc (.cells #[bv, lv, .int .i64 hd, .int .i64 fr, .int .i64 sz] 52)) := (Below.refl _ _).alloc (Nat.le_refl _) _
  refine ⟨_, hW.wr, ?_, ?_, fun k hk => ⟨by simp; omega, hW.apart hk⟩, hbx.trans (bxa.mono (by omega))⟩
  · have r4 : RdC (fun k => w3.heap.size ≤ k ∧ k < w4.heap.size) w4 v6 q6 := hq6.mono (fun k a b => ⟨a, b⟩)
    exact ((r4.later b45).later bxa).mono (fun k a _ => ap k (by have := a.1; omega) (by have := a.2; omega))
  · have r5 : Rd (fun k => w4.heap.size ≤ k ∧ k < w5.heap.size) w5 v7 (bg.map Value.bool) := (Rd.of_own h7).mono (fun k e b => ⟨(ownsRow_lt h7 e).1, b⟩)
    exact ((r5.later b6).later bxa).mono (fun k a _ => ap k (by have := a.1; omega) a.2)

/-- behind reset, the making of g and the clone of ops: what f may not touch -/
theorem res_f {R : Nat → Prop} {w7 w8 w9 : World} {f : Nat} {bv lv : Value} {hd fr : Int} (h : Wr R w7 f bv lv [] [] hd fr 0) (b78 : Below w7.heap.size w7 w8) (b89 : Below w8.heap.size w8 w9) :
    ∃ Rf : Nat → Prop, Wr Rf w9 f bv lv [] [] hd fr 0 ∧ (∀ k, R k → Rf k) ∧ (∀ k, w7.heap.size ≤ k → k < w9.heap.size → Rf k) ∧ (∀ k, Rf k → k < w9.heap.size) := by
  have s7 := b78.size
  have s8 := b89.size
  have b79 : Below w7.heap.size w7 w9 := b78.trans (b89.mono s7)
  refine ⟨fun k => k < w9.heap.size ∧ Apart f bv lv k, ⟨h.wk.below b79, by simp, fun x => x.2.1 rfl, fun k e x => x.2.2.1 e, fun k e x => x.2.2.2 e, fun k x => x.1⟩, fun k hr => ⟨by have := h.lt k hr; omega, ?_, ?_, ?_⟩, fun k a b => ⟨b, ?_, ?_, ?_⟩, fun k x => x.1⟩
  · intro e; exact h.nf (e ▸ hr)
  · intro e; exact h.nb k e hr
  · intro e; exact h.nl k e hr
  · have := lt_of_block h.wk.blk; omega
  · intro e; have := (ownsRow_lt h.wk.buf e).2; omega
  · intro e; have := (ownsRow_lt h.wk.lng e).2; omega

/-- behind the script on f: what g may not touch: all but its own block -/
theorem res_g {Rf : Nat → Prop} {w10 : World} {f g : Nat} {bv lv : Value} {bs : List Int} {ls : List (Int × Value × List Int)} {hd fr sz : Int} (hF : Wr Rf w10 f bv lv bs ls hd fr sz) (hg : Rf g)
    (hG : w10.heap[g]? = some (.cells #[.slice none 0 0, .slice none 0 0, .int .i64 0, .int .i64 0, .int .i64 0] 52 (0, 0))) :
    Wr (fun k => k < w10.heap.size ∧ k ≠ g) w10 g (.slice none 0 0) (.slice none 0 0) [] [] 0 0 0 ∧ (f < w10.heap.size ∧ f ≠ g) ∧ (∀ k, bv.ownBlock = some k → k < w10.heap.size ∧ k ≠ g) ∧ (∀ k, lv.ownBlock = some k → k < w10.heap.size ∧ k ≠ g) := by
  refine ⟨⟨⟨hG, World.ownsRow_nil _ _ _ _, World.ownsRow_nil _ _ _ _⟩, by simp, fun x => x.2 rfl, by simp [Value.ownBlock], by simp [Value.ownBlock], fun k x => x.1⟩, ⟨lt_of_block hF.wk.blk, fun e => hF.nf (e ▸ hg)⟩, fun k e => ⟨(ownsRow_lt hF.wk.buf e).2, fun e2 => hF.nb k e (e2 ▸ hg)⟩, fun k e => ⟨(ownsRow_lt hF.wk.lng e).2, fun e2 => hF.nl k e (e2 ▸ hg)⟩⟩

set_option maxHeartbeats 8000000 in
set_option maxRecDepth 100000 in
theorem res_walk (v0 v1 v2 v6 v7 : Value) (hd fr sz : Int) (bs ats : List Int) (p2 p6 : List (Value × List Int)) (bg : List Bool) (w : World) (h0 : Rd (· < w.heap.size) w v0 (bcells bs)) (h1 : Rd (· < w.heap.size) w v1 (ats.map (Value.int .i64)))
    (hC2 : RdC (· < w.heap.size) w v2 p2) (hC6 : RdC (· < w.heap.size) w v6 p6) (hB : Rd (· < w.heap.size) w v7 (bg.map Value.bool)) :
    Calls Try.prog 4 #[v0, v1, v2, .int .i64 hd, .int .i64 fr, .int .i64 sz, v6, v7] w (LawPost w) := by
  obtain ⟨ad0, cap0, e0, hm0⟩ := h0.formAny
  obtain ⟨ad1, cap1, e1, hm1⟩ := h1.formAny
  obtain ⟨ad2, cap2, e2⟩ := hC2.form
  obtain ⟨ad6, cap6, e6⟩ := hC6.form
  obtain ⟨ad7, cap7, e7, hm7⟩ := hB.formBool
  rw [bcells_length] at e0 hm0
  rw [List.length_map] at e1 hm1
  subst e0 e1 e2 e6 e7
  have HR : Hid (Rd (· < w.heap.size) w (.slice ad0 bs.length cap0) (bcells bs) ∧ Rd (· < w.heap.size) w (.slice ad1 ats.length cap1) (ats.map (Value.int .i64)) ∧ RdC (· < w.heap.size) w (.slice ad2 p2.length cap2) p2 ∧ RdC (· < w.heap.size) w (.slice ad6 p6.length cap6) p6 ∧ Rd (· < w.heap.size) w (.slice ad7 bg.length cap7) (bg.map Value.bool)) := ⟨h0, h1, hC2, hC6, hB⟩
  clear h0 h1 hC2 hC6 hB
  go_enter Try.func4, Try.ntmps4
  go_wp2_with fail
  refine (bytes24 w ad0 bs.length cap0 hm0 ad1 ats.length cap1 hm1 _ p2 HR.out.2.2.1 hd fr sz _ p6 HR.out.2.2.2.1 ad7 bg.length cap7 hm7).mono ?_
  rintro e w' ⟨r, rfl, hw, hBd⟩
  obtain rfl : w = w' := hw.symm
  clear hw hm0 hm1 hm7
  cases r with
  | false =>
    go_wp2
    go_ret
    exact ⟨rfl, Below.refl _ _⟩
  | true =>
    have hB' := hBd rfl
    clear hBd
    have hdf0 : decide ((1048576 : Int) < (bs.length : Int)) = false := by simp; omega
    have hdf7 : decide ((1048576 : Int) < (bg.length : Int)) = false := by simp; omega
    by_cases hc1 : ats.length ≤ 65536
    case neg =>
      have hdt : decide ((65536 : Int) < (ats.length : Int)) = true := by simp; omega
      go_wp2
      go_ret
      exact ⟨rfl, Below.refl _ _⟩
    have hdf1 : decide ((65536 : Int) < (ats.length : Int)) = false := by simp; omega
    by_cases hc2 : p2.length ≤ 65536
    case neg =>
      have hdt : decide ((65536 : Int) < (p2.length : Int)) = true := by simp; omega
      go_wp2
      go_ret
      exact ⟨rfl, Below.refl _ _⟩
    have hdf2 : decide ((65536 : Int) < (p2.length : Int)) = false := by simp; omega
    by_cases hc3 : p6.length ≤ 65536
    case neg =>
      have hdt : decide ((65536 : Int) < (p6.length : Int)) = true := by simp; omega
      go_wp2
      go_ret
      exact ⟨rfl, Below.refl _ _⟩
    have hdf3 : decide ((65536 : Int) < (p6.length : Int)) = false := by simp; omega
    by_cases hc4 : bs.length + 8 * ats.length + bg.length ≤ 1048576
    case neg =>
      go_wp2
      go_ret
      exact ⟨rfl, Below.refl _ _⟩
    go_wp2_with fail
    refine (chunk_any _ p2 w HR.out.2.2.1).mono ?_
    rintro e w' ⟨r, rfl, hw⟩
    obtain rfl : w = w' := hw.symm
    clear hw
    go_wp2_with fail
    · go_ret
      exact ⟨rfl, Below.refl _ _⟩
    refine (chunk_any _ p6 w HR.out.2.2.2.1).mono ?_
    rintro e w' ⟨r', rfl, hw⟩
    obtain rfl : w = w' := hw.symm
    clear hw hdf0 hdf1 hdf2 hdf3 hdf7
    go_wp2_with fail
    · go_ret
      exact ⟨rfl, Below.refl _ _⟩
    refine (cloneBytes_any _ (bcells bs) w HR.out.1 (bcells_one _) (by rw [bcells_length]; omega)).mono ?_
    rintro e w1 ⟨c0, rfl, ho0, hb1⟩
    rw [bcells_length] at ho0
    obtain ⟨da0, dc0, rfl, _, _⟩ := ownsRow_form ho0
    have HO0 : Hid (w1.ownsRow w.heap.size 5 1 (.slice da0 bs.length dc0) bs.length (bcells bs) ∧ Below w.heap.size w w1) := ⟨ho0, hb1⟩
    clear ho0 hb1
    go_wp2_with fail
    refine (cloneInts_any _ (ats.map (Value.int .i64)) w1 (HR.out.2.1.later HO0.out.2) (ints_oneCell _ _) (by rw [List.length_map]; omega)).mono ?_
    rintro e w2 ⟨c1, rfl, ho1, hb2⟩
    rw [List.length_map] at ho1
    obtain ⟨da1, dc1, rfl, _, _⟩ := ownsRow_form ho1
    have HO1 : Hid (w2.ownsRow w1.heap.size 3 1 (.slice da1 ats.length dc1) ats.length (ats.map (Value.int .i64)) ∧ Below w1.heap.size w1 w2 ∧ Below w.heap.size w w2) := ⟨ho1, hb2, HO0.out.2.trans (hb2.mono HO0.out.2.size)⟩
    clear ho1 hb2
    go_wp2_with fail
    refine (cloneChunks_any _ p2 w2 (HR.out.2.2.1.later HO1.out.2.2) (by omega) (fun p hp => by have := tot_mem hp; omega)).mono ?_
    rintro e w3 ⟨c2, q2, rfl, hq2, hr2, hb3⟩
    obtain ⟨da2, dc2, rfl⟩ := hr2.form
    have hn2 : q2.length ≤ 65536 := by rw [len_of_map hq2]; exact hc2
    have HO2 : Hid (RdC (fun k => w2.heap.size ≤ k) w3 (.slice da2 q2.length dc2) q2 ∧ Below w2.heap.size w2 w3 ∧ Below w.heap.size w w3) := ⟨hr2, hb3, HO1.out.2.2.trans (hb3.mono HO1.out.2.2.size)⟩
    clear hr2 hb3 hq2
    go_wp2_with fail
    refine (cloneChunks_any _ p6 w3 (HR.out.2.2.2.1.later HO2.out.2.2) (by omega) (fun p hp => by have := tot_mem hp; omega)).mono ?_
    rintro e w4 ⟨c6, q6, rfl, hq6, hr6, hb4⟩
    obtain ⟨da6, dc6, rfl⟩ := hr6.form
    have hn6 : q6.length ≤ 65536 := by rw [len_of_map hq6]; exact hc3
    have ht6 : tot q6 ≤ 1048576 := by rw [tot_congr hq6]; omega
    have HO6 : Hid (RdC (fun k => w3.heap.size ≤ k) w4 (.slice da6 q6.length dc6) q6 ∧ Below w3.heap.size w3 w4 ∧ Below w.heap.size w w4) := ⟨hr6, hb4, HO2.out.2.2.trans (hb4.mono HO2.out.2.2.size)⟩
    clear hr6 hb4 hq6
    go_wp2_with fail
    refine (cloneBools_any _ (bg.map Value.bool) w4 (HR.out.2.2.2.2.later HO6.out.2.2) (bools_one bg) (by rw [List.length_map]; omega)).mono ?_
    rintro e w5 ⟨c7, rfl, ho7, hb5⟩
    rw [List.length_map] at ho7
    obtain ⟨da7, dc7, rfl, _, _⟩ := ownsRow_form ho7
    have HO7 : Hid (w5.ownsRow w4.heap.size 4 1 (.slice da7 bg.length dc7) bg.length (bg.map Value.bool) ∧ Below w4.heap.size w4 w5) := ⟨ho7, hb5⟩
    have b35 : Below w3.heap.size w3 w5 := HO6.out.2.1.trans (hb5.mono HO6.out.2.1.size)
    have b25 : Below w2.heap.size w2 w5 := HO2.out.2.1.trans (b35.mono HO2.out.2.1.size)
    have HN5 : Hid (Rd (fun k => (Value.slice da1 ats.length dc1).ownBlock = some k) w5 (.slice da1 ats.length dc1) (ats.map (Value.int .i64)) ∧ RdC (fun k => w2.heap.size ≤ k) w5 (.slice da2 q2.length dc2) q2) := ⟨(Rd.of_own HO1.out.1).later b25, HO2.out.1.later b35⟩
    clear ho7 hb5 b35 b25
    go_wp2_with fail
    refine (new_any w5 da0 bs.length dc0 _ _ ats q2 hd fr sz HN5.out.1 HN5.out.2 (by omega) (by omega)).mono ?_
    rintro e w6 ⟨lv0, x0, rfl, hw6, hl0, hbx0⟩
    obtain ⟨R, hW6, hC6, hB6, hR6, b06⟩ := res_init (hd := hd) (fr := fr) (sz := sz) HO0.out.1 HO0.out.2 HO1.out.2.1 HO2.out.1 HO2.out.2.1 HO6.out.1 HO6.out.2.1 HO7.out.1 HO7.out.2 hl0 hbx0
    rw [← hw6] at hW6 hC6 hB6 b06
    generalize x0.heap.size = f at hW6 ⊢
    have H6 : Hid (Wr R w6 f (.slice da0 bs.length dc0) lv0 bs (ats.zip q2) hd fr sz ∧ RdC R w6 (.slice da6 q6.length dc6) q6 ∧ Rd R w6 (.slice da7 bg.length dc7) (bg.map Value.bool) ∧ (∀ k, k < w.heap.size → R k) ∧ Below w.heap.size w w6) := ⟨hW6, hC6, hB6, hR6, b06⟩
    clear hW6 hC6 hB6 hR6 b06 hw6 hl0 hbx0 HO0 HO1 HO2 HO6 HO7 HN5 HR
    go_wp2_with fail
    refine (reset_any H6.out.1).mono ?_
    rintro e w7 ⟨bv7, lv7, rfl, hW7, hK7⟩
    obtain ⟨db7, dcb7, rfl, _, _⟩ := ownsRow_form hW7.wk.buf
    have H7 : Hid (Wr R w7 f (.slice db7 0 dcb7) lv7 [] [] hd fr 0 ∧ Keep R w6 w7) := ⟨hW7, hK7⟩
    clear hW7 hK7
    go_wp2_with fail
    refine (size_any H7.out.1.wk).mono ?_
    rintro e wz ⟨rfl, hw⟩
    obtain rfl : w7 = wz := hw.symm
    clear hw
    go_wp2_with fail
    refine (buf_any H7.out.1.wk).mono ?_
    rintro e wz ⟨rfl, hw⟩
    obtain rfl : w7 = wz := hw.symm
    clear hw
    go_wp2_with fail
    refine (numLongs_any H7.out.1.wk).mono ?_
    rintro e wz ⟨rfl, hw⟩
    obtain rfl : w7 = wz := hw.symm
    clear hw
    go_wp2_with fail
    refine (new0_any w7 none 0 0 0 0 0).mono ?_
    rintro e w8 ⟨rfl, hw8⟩
    have b78 : Below w7.heap.size w7 w8 := by rw [hw8]; exact (Below.refl _ _).alloc (Nat.le_refl _) _
    have hg8 : w8.heap[w7.heap.size]? = some (.cells #[.slice none 0 0, .slice none 0 0, .int .i64 0, .int .i64 0, .int .i64 0] 52 (0, 0)) := by rw [hw8]; exact heap_alloc_new _ _
    have hs8 : w8.heap.size = w7.heap.size + 1 := by rw [hw8]; simp
    have HC7 : Hid (RdC R w7 (.slice da6 q6.length dc6) q6 ∧ Rd R w7 (.slice da7 bg.length dc7) (bg.map Value.bool)) := ⟨H6.out.2.1.keep H7.out.2, H6.out.2.2.1.keep H7.out.2⟩
    have H8 : Hid (Below w7.heap.size w7 w8 ∧ w8.heap[w7.heap.size]? = some (.cells #[.slice none 0 0, .slice none 0 0, .int .i64 0, .int .i64 0, .int .i64 0] 52 (0, 0)) ∧ w8.heap.size = w7.heap.size + 1) := ⟨b78, hg8, hs8⟩
    clear hw8 b78 hg8 hs8
    go_wp2_with fail
    refine (cloneChunks_any _ q6 w8 (HC7.out.1.later H8.out.1) (by omega) (fun p hp => by have := tot_mem hp; omega)).mono ?_
    rintro e w9 ⟨cG, qG, rfl, hqG, hrG, b89⟩
    obtain ⟨daG, dcG, rfl⟩ := hrG.form
    have hnG : qG.length = q6.length := len_of_map hqG
    have htG : tot qG = tot q6 := tot_congr hqG
    obtain ⟨Rf, hWf, hRf1, hRf2, hRf3⟩ := res_f H7.out.1 H8.out.1 b89
    have b79 : Below w7.heap.size w7 w9 := H8.out.1.trans (b89.mono H8.out.1.size)
    have H9 : Hid (Wr Rf w9 f (.slice db7 0 dcb7) lv7 [] [] hd fr 0 ∧ (∀ k, R k → Rf k) ∧ (∀ k, w7.heap.size ≤ k → k < w9.heap.size → Rf k) ∧ (∀ k, Rf k → k < w9.heap.size) ∧ RdC R w9 (.slice da6 q6.length dc6) q6 ∧ Rd R w9 (.slice da7 bg.length dc7) (bg.map Value.bool) ∧
        RdC (fun k => w8.heap.size ≤ k) w9 (.slice daG qG.length dcG) qG ∧ Below w7.heap.size w7 w9 ∧ Below w8.heap.size w8 w9 ∧ qG.map (·.2) = q6.map (·.2) ∧ qG.length = q6.length ∧ tot qG = tot q6) :=
      ⟨hWf, hRf1, hRf2, hRf3, HC7.out.1.later b79, HC7.out.2.later b79, hrG, b79, b89, hqG, hnG, htG⟩
    clear hWf hRf1 hRf2 hRf3 b79 b89 hqG hrG hnG htG HC7
    go_wp2_with fail
    refine (run_any H9.out.1 H9.out.2.2.2.2.1 (H9.out.2.2.2.2.2.1.mono (fun k a _ => H9.out.2.1 k a)) H9.out.2.1 (by omega) (by omega) (by omega)).mono ?_
    rintro e w10 ⟨rfl, bvf, lvf, lsf, hWf, hmf, hrf, hpf, hnf, hlf, htf, hKf⟩
    obtain ⟨S, hS⟩ : ∃ S, S = scAt (q6.map (·.2)) bg q6.length := ⟨_, rfl⟩
    rw [← hS] at hWf hmf hpf hnf ⊢
    have gRf : Rf w7.heap.size := H9.out.2.2.1 _ (Nat.le_refl _) (by have := H8.out.2.2; have := H9.out.2.2.2.2.2.2.2.2.1.size; omega)
    have hgw : w10.heap[w7.heap.size]? = some (.cells #[.slice none 0 0, .slice none 0 0, .int .i64 0, .int .i64 0, .int .i64 0] 52 (0, 0)) := by
      rw [hKf.block _ gRf, H9.out.2.2.2.2.2.2.2.2.1.block _ (by have := H8.out.2.2; omega)]; exact H8.out.2.1
    obtain ⟨hWg, hf1, hf2, hf3⟩ := res_g hWf gRf hgw
    have hsz10 := hKf.size
    have hRg : ∀ k, R k → k < w10.heap.size ∧ k ≠ w7.heap.size := fun k hk => by
      have a := H7.out.1.lt k hk
      have b := H9.out.2.2.2.2.2.2.2.1.size
      exact ⟨by omega, by omega⟩
    have hCG : RdC (fun k => w8.heap.size ≤ k ∧ k < w10.heap.size) w10 (.slice daG qG.length dcG) qG := by
      have a := (H9.out.2.2.2.2.2.2.1.mono (R' := fun k => w8.heap.size ≤ k ∧ k < w9.heap.size) (fun k a b => ⟨a, b⟩)).keep (hKf.mono (fun k x => H9.out.2.2.1 k (by have := H8.out.2.2; have := x.1; omega) x.2))
      exact a.mono (fun k x y => ⟨x.1, y⟩)
    have hBG : Rd (fun k => k < w10.heap.size ∧ k ≠ w7.heap.size) w10 (.slice da7 bg.length dc7) (bg.map Value.bool) := (H9.out.2.2.2.2.2.1.keep (hKf.mono H9.out.2.1)).mono (fun k a _ => hRg k a)
    have H10 : Hid (Wr (fun k => k < w10.heap.size ∧ k ≠ w7.heap.size) w10 w7.heap.size (.slice none 0 0) (.slice none 0 0) [] [] 0 0 0 ∧ RdC (fun k => w8.heap.size ≤ k ∧ k < w10.heap.size) w10 (.slice daG qG.length dcG) qG ∧ Rd (fun k => k < w10.heap.size ∧ k ≠ w7.heap.size) w10 (.slice da7 bg.length dc7) (bg.map Value.bool) ∧
        (∀ k, w8.heap.size ≤ k ∧ k < w10.heap.size → k < w10.heap.size ∧ k ≠ w7.heap.size)) := ⟨hWg, hCG, hBG, fun k x => ⟨x.2, by have := H8.out.2.2; have := x.1; omega⟩⟩
    have HF10 : Hid (Wk w10 f bvf lvf S.bs lsf (S.hb.getD hd) (if S.hb.isSome then 0 else fr) S.sz ∧ (∀ p ∈ lsf, Rd R w10 p.2.1 (bcells p.2.2)) ∧ lsf.map (fun p => (p.1, p.2.2)) = S.L ∧ placed S.bs.length 0 lsf ∧ ltot lsf ≤ tot q6 ∧ (f < w10.heap.size ∧ f ≠ w7.heap.size) ∧ (∀ k, bvf.ownBlock = some k → k < w10.heap.size ∧ k ≠ w7.heap.size) ∧ (∀ k, lvf.ownBlock = some k → k < w10.heap.size ∧ k ≠ w7.heap.size) ∧
        (∀ k, R k → k < w10.heap.size ∧ k ≠ w7.heap.size) ∧ Below w.heap.size w w10) :=
      ⟨hWf.wk, hrf, hmf, hpf, htf, hf1, hf2, hf3, hRg, by
        have a1 := H6.out.2.2.2.2
        have a2 : Below w.heap.size w w7 := a1.trans (H7.out.2.below H6.out.2.2.2.1)
        have a3 := H9.out.2.2.2.2.2.2.2.1
        have a4 : Below w.heap.size w w9 := a2.trans (a3.mono (by have := a2.size; omega))
        exact a4.trans (hKf.below (fun k hk => H9.out.2.1 k (H6.out.2.2.2.1 k hk)))⟩
    have HSE : Hid (S = scAt (q6.map (·.2)) bg q6.length) := hS
    have hSb : S.bs.length ≤ 2097152 := by omega
    have hlf' : lsf.length ≤ 65536 := by omega
    clear hWf hmf hrf hpf hnf hlf htf hKf hS gRf hgw hWg hf1 hf2 hf3 hsz10 hRg hCG hBG
    have hqG1 : qG.length ≤ 65536 := by have := H9.out.2.2.2.2.2.2.2.2.2.2.1; omega
    have hqG2 : tot qG ≤ 1048576 := by have := H9.out.2.2.2.2.2.2.2.2.2.2.2; omega
    go_wp2_with fail
    refine (run_any H10.out.1 H10.out.2.1 H10.out.2.2.1 H10.out.2.2.2 (by omega) (by omega) (by omega)).mono ?_
    rintro e w11 ⟨rfl, bvg, lvg, lsg, hWg, hmg, hrg, hpg, hng, hlg, htg, hKg⟩
    rw [H9.out.2.2.2.2.2.2.2.2.2.1, H9.out.2.2.2.2.2.2.2.2.2.2.1, ← HSE.out] at hWg hmg hpg hng ⊢
    rw [H9.out.2.2.2.2.2.2.2.2.2.2.1] at hlg
    rw [H9.out.2.2.2.2.2.2.2.2.2.2.2] at htg
    have hWf11 := HF10.out.1.keep hKg HF10.out.2.2.2.2.2.1 HF10.out.2.2.2.2.2.2.1 HF10.out.2.2.2.2.2.2.2.1
    have hrf11 : ∀ p ∈ lsf, Rd (fun k => k < w10.heap.size ∧ k ≠ w7.heap.size) w11 p.2.1 (bcells p.2.2) := fun p hp => ((HF10.out.2.1 p hp).mono (fun k a _ => HF10.out.2.2.2.2.2.2.2.2.1 k a)).keep hKg
    have b11 : Below w.heap.size w w11 := HF10.out.2.2.2.2.2.2.2.2.2.trans (hKg.below (fun k hk => HF10.out.2.2.2.2.2.2.2.2.1 k (H6.out.2.2.2.1 k hk)))
    have hml : lsf.map (fun p => (p.1, p.2.2)) = lsg.map (fun p => (p.1, p.2.2)) := by rw [HF10.out.2.2.1, hmg]
    have hflg : flat S.bs 0 lsg = flat S.bs 0 lsf := flat_congr hml.symm
    have hlenf : (flat S.bs 0 lsf).length ≤ 4194304 := by
      rw [flat_length (Nat.zero_le _) HF10.out.2.2.2.1]; have := HF10.out.2.2.2.2.1; omega
    have H11 : Hid (Wk w11 f bvf lvf S.bs lsf (S.hb.getD hd) (if S.hb.isSome then 0 else fr) S.sz ∧ Wk w11 w7.heap.size bvg lvg S.bs lsg (S.hb.getD 0) (if S.hb.isSome then 0 else 0) S.sz ∧ (∀ p ∈ lsf, Rd (fun k => k < w10.heap.size ∧ k ≠ w7.heap.size) w11 p.2.1 (bcells p.2.2)) ∧ (∀ p ∈ lsg, Rd (fun k => w8.heap.size ≤ k ∧ k < w10.heap.size) w11 p.2.1 (bcells p.2.2)) ∧
        placed S.bs.length 0 lsf ∧ placed S.bs.length 0 lsg ∧ flat S.bs 0 lsg = flat S.bs 0 lsf ∧ lsf.map (fun p => (p.1, p.2.2)) = lsg.map (fun p => (p.1, p.2.2)) ∧ Below w.heap.size w w11 ∧ ltot lsf ≤ tot q6) := ⟨hWf11, hWg.wk, hrf11, hrg, HF10.out.2.2.2.1, hpg, hflg, hml, b11, HF10.out.2.2.2.2.1⟩
    have hlg' : lsg.length ≤ 65536 := by omega
    clear hWg hmg hrg hpg hng hlg htg hKg hWf11 hrf11 b11 hml hflg HF10 H10 H9 H8 H7 H6 HSE hqG1 hqG2
    generalize w7.heap.size = g at H11 ⊢
    go_wp2_with fail
    refine (flatten_any H11.out.1 H11.out.2.2.1 H11.out.2.2.2.2.1 (by omega) (by omega) (by omega)).mono ?_
    rintro e w12 ⟨of_, rfl, hof, b12⟩
    have hlg2 : (flat S.bs 0 lsg).length ≤ 1099511627776 := by rw [H11.out.2.2.2.2.2.2.1]; omega
    have hc := flatten_any (H11.out.2.1.below b12) (fun p hp => (H11.out.2.2.2.1 p hp).later b12) H11.out.2.2.2.2.2.1 (by omega) (by omega) hlg2
    rw [H11.out.2.2.2.2.2.2.1] at hc
    have HC : Hid (_ ∧ _ ∧ _) := ⟨hc, hof, b12⟩
    clear hc hof b12 hlg2
    go_wp2_with fail
    refine Calls.mono HC.out.1 ?_
    rintro e w13 ⟨og, rfl, hog, b13⟩
    have b1113 : Below w11.heap.size w11 w13 := HC.out.2.2.trans (b13.mono HC.out.2.2.size)
    have hE1 := (Rd.of_own HC.out.2.1).later b13
    have hE2 := Rd.of_own hog
    clear hog b13 HC
    go_wp2_with fail
    refine (equal_any hE1 hE2 (by omega)).mono ?_
    rintro e w14 ⟨rfl, n14, hw14⟩
    have b14 := b1113.trans ((below_drawn hw14).mono b1113.size)
    have hWf := H11.out.1.below b14
    have hWg := H11.out.2.1.below b14
    obtain ⟨dbf, dcbf, hbf, _, _⟩ := ownsRow_form hWf.buf
    obtain ⟨dbg, dcbg, hbg2, _, _⟩ := ownsRow_form hWg.buf
    have H14 : Hid (Wk w14 f bvf lvf S.bs lsf (S.hb.getD hd) (if S.hb.isSome then 0 else fr) S.sz ∧ Wk w14 g bvg lvg S.bs lsg (S.hb.getD 0) (if S.hb.isSome then 0 else 0) S.sz ∧ (∀ p ∈ lsf, Rd (fun k => k < w10.heap.size ∧ k ≠ g) w14 p.2.1 (bcells p.2.2)) ∧ (∀ p ∈ lsg, Rd (fun k => w8.heap.size ≤ k ∧ k < w10.heap.size) w14 p.2.1 (bcells p.2.2)) ∧
        lsf.map (fun p => (p.1, p.2.2)) = lsg.map (fun p => (p.1, p.2.2)) ∧ Below w.heap.size w w14) := ⟨hWf, hWg, fun p hp => (H11.out.2.2.1 p hp).later b14, fun p hp => (H11.out.2.2.2.1 p hp).later b14, H11.out.2.2.2.2.2.2.2.1, H11.out.2.2.2.2.2.2.2.2.1.trans (b14.mono H11.out.2.2.2.2.2.2.2.2.1.size)⟩
    have hpb : ∀ p ∈ lsf, p.2.2.length ≤ 1099511627776 := by
      have hl := H11.out.2.2.2.2.2.2.2.2.2
      have key : ∀ (l : List (Int × Value × List Int)), ∀ p ∈ l, p.2.2.length ≤ ltot l := by
        intro l
        induction l with
        | nil => intro p hp; cases hp
        | cons a l ih =>
          intro p hp
          simp only [ltot]
          rcases List.mem_cons.1 hp with rfl | hp
          · omega
          · have := ih p hp; omega
      intro p hp
      have := key lsf p hp
      omega
    have HPB : Hid (∀ p ∈ lsf, p.2.2.length ≤ 1099511627776) := hpb
    subst hbf hbg2
    clear hE1 hE2 b1113 hw14 b14 hWf hWg H11 hpb
    go_wp2_with fail
    refine (size_any H14.out.1).mono ?_
    rintro e wz ⟨rfl, hw⟩
    obtain rfl : w14 = wz := hw.symm
    clear hw
    go_wp2_with fail
    refine (size_any H14.out.2.1).mono ?_
    rintro e wz ⟨rfl, hw⟩
    obtain rfl : w14 = wz := hw.symm
    clear hw
    go_wp2_with fail
    refine (buf_any H14.out.1).mono ?_
    rintro e wz ⟨rfl, hw⟩
    obtain rfl : w14 = wz := hw.symm
    clear hw
    go_wp2_with fail
    refine (buf_any H14.out.2.1).mono ?_
    rintro e wz ⟨rfl, hw⟩
    obtain rfl : w14 = wz := hw.symm
    clear hw
    go_wp2_with fail
    refine (same_any H14.out.1 H14.out.2.1 H14.out.2.2.1 H14.out.2.2.2.1 H14.out.2.2.2.2.1 (by omega) HPB.out).mono ?_
    rintro e w15 ⟨rfl, n15, hw15⟩
    have b15 := below_drawn hw15
    have hWf := H14.out.1.below b15
    have hWg := H14.out.2.1.below b15
    have hb15 := H14.out.2.2.2.2.2.trans (b15.mono H14.out.2.2.2.2.2.size)
    clear hw15 b15 H14 HPB
    cases hhb : S.hb with
    | none =>
      clear hWf hWg
      go_wp2
      go_ret
      exact ⟨rfl, hb15⟩
    | some hh =>
      rw [hhb] at hWf hWg
      simp only [Option.getD_some, Option.isSome_some, if_true] at hWf hWg
      go_wp2_with fail
      refine (head_any hWf).mono ?_
      rintro e wz ⟨rfl, hw⟩
      obtain rfl : w15 = wz := hw.symm
      clear hw
      go_wp2_with fail
      refine (head_any hWg).mono ?_
      rintro e wz ⟨rfl, hw⟩
      obtain rfl : w15 = wz := hw.symm
      clear hw
      go_wp2_with fail
      refine (frame_any hWf).mono ?_
      rintro e wz ⟨rfl, hw⟩
      obtain rfl : w15 = wz := hw.symm
      clear hw
      go_wp2_with fail
      refine (frame_any hWg).mono ?_
      rintro e wz ⟨rfl, hw⟩
      obtain rfl : w15 = wz := hw.symm
      clear hw
      go_wp2
      go_ret
      exact ⟨rfl, hb15⟩
end Go.Proofs.Qxb6600175a
