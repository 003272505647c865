/-
  FnBeginHeaderSurvivesStretches (6): the walk.
-/
import Derived.Test.Qxb6600175aEq
namespace Go.Proofs.Qxb6600175a
open Go.RowKit
set_option linter.unusedVariables false

/-- what a law leaves: true, and nothing old turned -/
def LawPost (w : World) (e : Ending) (w' : World) : Prop := e = .returned (.bool true) ∧ Below w.heap.size w w'

theorem Rd.form {R : Nat → Prop} {w : World} {v : Value} {bs : List Int} (h : Rd R w v (bcells bs)) : ∃ ad cap, v = .slice ad bs.length cap := by
  obtain ⟨ad, cap, e, _⟩ := h
  rw [bcells_length] at e
  exact ⟨ad, cap, e⟩
theorem RdC.form {R : Nat → Prop} {w : World} {v : Value} {ps : List (Value × List Int)} (h : RdC R w v ps) : ∃ ad cap, v = .slice ad ps.length cap := by
  obtain ⟨ad, cap, e, _⟩ := h.at_
  exact ⟨ad, cap, e⟩
theorem len_of_map {ps qs : List (Value × List Int)} (h : qs.map (·.2) = ps.map (·.2)) : qs.length = ps.length := by
  have := congrArg List.length h; simpa using this

/-- the blocks that a writer made in world w3 over the row v may not touch -/
def Old (w3 : World) (v : Value) (k : Nat) : Prop := k < w3.heap.size ∧ v.ownBlock ≠ some k

/-- a fresh writer over a row of the call's own -/
theorem Wr.fresh {w3 : World} {v : Value} {bs : List Int} (h : w3.ownsRow 0 5 1 v bs.length (bcells bs)) (hd fr sz : Int) :
    Wr (Old w3 v) (w3.alloc (.cells #[v, .slice none 0 0, .int .i64 hd, .int .i64 fr, .int .i64 sz] 52)) w3.heap.size v (.slice none 0 0) bs [] hd fr sz := by
  refine ⟨⟨heap_alloc_new _ _, h.alloc _, World.ownsRow_nil _ _ _ _⟩, by simp, fun hr => Nat.lt_irrefl _ hr.1, fun k hk hr => hr.2 hk, by simp [Value.ownBlock], fun k hr => ?_⟩
  have := hr.1
  simp; omega

/-- the loop's relation: k stretches behind begin -/
def BegRel (R : Nat → Prop) (w4 : World) (f : Nat) (bs : List Int) (qs : List (Value × List Int)) (sz : Int) (k : Nat) (wr : World) : Prop :=
  ∃ bv lv x ls, Wr R wr f bv lv (bs ++ [0, 0, 0, 0] ++ x) ls bs.length 0 (wrap64 (sz + 4 + tot (qs.take k))) ∧ (∀ p ∈ ls, ((bs.length + 4 : Nat) : Int) ≤ p.1) ∧ x.length ≤ tot (qs.take k) ∧ ls.length ≤ k ∧ Keep R w4 wr

theorem ownsRow_pos {w : World} {base e size : Nat} {v : Value} {n : Nat} {xs : List Value} (h : w.ownsRow base e size v n xs) (hn : 0 < n) : ∃ g cap, v = .slice (some ⟨g, 0, none⟩) n cap ∧ n ≤ cap ∧ cap ≤ maxLen := by
  rcases h.2 with ⟨rfl, rfl⟩ | ⟨g, cap, cur, rfl, _, _, h1, h2, _⟩
  · omega
  · exact ⟨g, cap, rfl, h1, h2⟩
/-- the head of an owned row, cut at its length -/
theorem Rd.take {w : World} {base e g n cap m : Nat} {cs cs' : List Value} (h : w.ownsRow base e 1 (.slice (some ⟨g, 0, none⟩) n cap) n (cs ++ cs')) (hm : cs.length = m) : Rd (fun _ => True) w (.slice (some ⟨g, 0, none⟩) m cap) cs := by
  have hl : cs.length + cs'.length = n := by simpa using h.1
  obtain ⟨ad, cp, e, h1, h2⟩ := ownsRow_form h
  simp at e
  obtain ⟨rfl, rfl⟩ := e
  refine ⟨some ⟨g, 0, none⟩, cap, by rw [hm], by omega, h2, (fun h => by cases h), fun _ => ⟨g, 0, rfl, trivial, fun i u hu => ?_⟩⟩
  have hi : i < cs.length := (List.getElem?_eq_some_iff.1 hu).1
  rw [Nat.zero_add, h.cellAt i (by omega), List.getElem?_append_left hi]
  exact hu
theorem wrap64_wrap (a b : Int) : wrap64 (wrap64 a + b) = wrap64 (a + b) := by unfold wrap64; omega

theorem beg_step {R : Nat → Prop} {w4 wr w' : World} {f : Nat} {bs : List Int} {qs : List (Value × List Int)} {sz : Int} {k : Nat} (hk : k < qs.length) {x : List Int} {ls : List (Int × Value × List Int)} {pv : Value}
    (h2 : ∀ p ∈ ls, ((bs.length + 4 : Nat) : Int) ≤ p.1) (h3 : x.length ≤ tot (qs.take k)) (h4 : ls.length ≤ k) (hK : Keep R w4 wr) {bv' lv' : Value}
    (hW : Wr R w' f bv' lv' (appBs (bs ++ [0, 0, 0, 0] ++ x) qs[k].2) (appLs (bs ++ [0, 0, 0, 0] ++ x) ls pv qs[k].2) bs.length 0 (wrap64 (wrap64 (sz + 4 + tot (qs.take k)) + qs[k].2.length))) (hK' : Keep R wr w') :
    BegRel R w4 f bs qs sz (k + 1) w' := by
  have ht := tot_take qs k hk
  rw [wrap64_wrap] at hW
  have es : sz + 4 + (tot (qs.take k) : Int) + (qs[k].2.length : Int) = sz + 4 + (tot (qs.take (k + 1)) : Int) := by rw [ht]; omega
  rw [es] at hW
  unfold appBs appLs at hW
  by_cases hs : qs[k].2.length < 512
  · rw [if_pos hs, if_pos hs] at hW
    refine ⟨bv', lv', x ++ qs[k].2, ls, by rw [← List.append_assoc]; exact hW, h2, by rw [ht, List.length_append]; omega, by omega, hK.trans hK'⟩
  · rw [if_neg hs, if_neg hs] at hW
    refine ⟨bv', lv', x, _, hW, ?_, by omega, by simp; omega, hK.trans hK'⟩
    intro p hp
    rcases List.mem_append.1 hp with hp | hp
    · exact h2 p hp
    · simp at hp; subst hp; simp; omega

set_option maxHeartbeats 4000000 in
set_option maxRecDepth 100000 in
theorem beg_walk (v0 v4 : Value) (hd fr sz : Int) (bs : List Int) (ps : List (Value × List Int)) (w : World) (h0 : Rd (· < w.heap.size) w v0 (bcells bs)) (hC : RdC (· < w.heap.size) w v4 ps) :
    Calls Try.prog 6 #[v0, .int .i64 hd, .int .i64 fr, .int .i64 sz, v4] w (LawPost w) := by
  obtain ⟨ad0, cap0, e0⟩ := h0.form
  obtain ⟨ad4, cap4, e4⟩ := hC.form
  subst e0 e4
  go_enter Try.func6, Try.ntmps6
  go_wp2_with fail
  refine (bytes31 _ _ hd fr sz bs ps w h0 hC).mono ?_
  rintro e w' ⟨r, rfl, hw, hB⟩
  obtain rfl : w = w' := hw.symm
  clear hw
  cases r with
  | false =>
    go_wp2
    go_ret
    exact ⟨rfl, Below.refl _ _⟩
  | true =>
    have hB' := hB rfl
    clear hB
    by_cases hp1 : ps.length ≤ 65536
    case neg =>
      go_wp2
      go_ret
      exact ⟨rfl, Below.refl _ _⟩
    go_wp2_with fail
    refine (chunk_any _ ps w hC).mono ?_
    rintro e w' ⟨r, rfl, hw⟩
    obtain rfl : w = w' := hw.symm
    clear hw
    by_cases hr : 1048576 < wrap64 ((bs.length : Int) + r)
    case pos =>
      go_wp2
      go_ret
      exact ⟨rfl, Below.refl _ _⟩
    go_wp2_with fail
    refine (cloneBytes_any _ (bcells bs) w h0 (bcells_one _) (by rw [bcells_length]; omega)).mono ?_
    rintro e w1 ⟨v1, rfl, hv1, hb1⟩
    rw [bcells_length] at hv1
    obtain ⟨ad1, cap1, rfl, _, _⟩ := ownsRow_form hv1
    have hC1 : RdC (· < w.heap.size) w1 (.slice ad4 ps.length cap4) ps := hC.keep (Keep.of_below hb1 (fun _ h => h))
    go_wp2_with fail
    refine (cloneChunks_any _ ps w1 hC1 (by omega) (fun p hp => by have := tot_mem hp; omega)).mono ?_
    rintro e w2 ⟨v2, qs, rfl, hqs, hv2, hb2⟩
    have hv12 : w2.ownsRow w.heap.size 5 1 (.slice ad1 bs.length cap1) bs.length (bcells bs) := ownsRow_block hv1 (fun k hk => hb2.block k (ownsRow_lt hv1 hk).2)
    obtain ⟨ad2, cap2, rfl⟩ := hv2.form
    go_wp2_with fail
    refine (cloneBytes_any _ (bcells bs) w2 (Rd.of_own hv12) (bcells_one _) (by rw [bcells_length]; omega)).mono ?_
    rintro e w3 ⟨v3, rfl, hv3, hb3⟩
    rw [bcells_length] at hv3
    have hv13 : w3.ownsRow w.heap.size 5 1 (.slice ad1 bs.length cap1) bs.length (bcells bs) := ownsRow_block hv12 (fun k hk => hb3.block k (ownsRow_lt hv12 hk).2)
    obtain ⟨ad3, cap3, rfl, _, _⟩ := ownsRow_form hv3
    go_wp2_with fail
    refine (new0_any w3 ad1 bs.length cap1 hd fr sz).mono ?_
    rintro e w4 ⟨rfl, hw4⟩
    have hwr := Wr.fresh (ownsRow_base hv13 (Nat.zero_le _)) hd fr sz
    have hC4 : RdC (Old w3 (.slice ad1 bs.length cap1)) w4 (.slice ad2 qs.length cap2) qs := by
      have a1 := hv2.keep (R := fun k => w1.heap.size ≤ k) (w' := w2) (Keep.refl _ _)
      have a2 := (a1.mono (R' := fun k => w1.heap.size ≤ k ∧ k < w2.heap.size) (fun k x y => ⟨x, y⟩)).keep (w' := w3) (Keep.of_below hb3 (fun k x => x.2))
      have hs3 := hb3.size
      have a3 := a2.mono (R' := Old w3 (.slice ad1 bs.length cap1)) (fun k x y => ⟨y, fun e => by have := (ownsRow_lt hv1 e).2; omega⟩)
      rw [hw4]
      exact a3.keep ((Keep.refl _ _).alloc (fun k x => x.1) _)
    rw [← hw4] at hwr
    have hb4 : Below w.heap.size w w4 := by
      have := hb1.size; have := hb2.size; have := hb3.size
      rw [hw4]
      exact ((hb1.trans (hb2.mono (by omega))).trans (hb3.mono (by omega))).alloc (by omega) _
    have hv34 : w4.ownsRow w2.heap.size 5 1 (.slice ad3 bs.length cap3) bs.length (bcells bs) := by rw [hw4]; exact hv3.alloc _
    have hOld : ∀ k, k < w.heap.size → Old w3 (.slice ad1 bs.length cap1) k := fun k hk => by
      have := hb1.size; have := hb2.size; have := hb3.size
      exact ⟨by omega, fun e => by have := (ownsRow_lt hv1 e).1; omega⟩
    have hOld3 : ∀ k, (Value.slice ad3 bs.length cap3).ownBlock = some k → Old w3 (.slice ad1 bs.length cap1) k := fun k hk => by
      have := hb1.size; have := hb2.size; have := ownsRow_lt hv3 hk
      exact ⟨by omega, fun e => by have := (ownsRow_lt hv1 e).2; omega⟩
    generalize Old w3 (.slice ad1 bs.length cap1) = R at hwr hC4 hOld hOld3
    generalize w3.heap.size = f at hwr ⊢
    have htot := tot_congr hqs
    have hlen := len_of_map hqs
    have HT : Hid (_ ∧ _) := ⟨htot, hlen⟩
    clear hw4 hv1 hv12 hv13 hv3 hv2 hb1 hb2 hb3 hC1 hC h0 htot hlen hqs
    go_wp2_with fail
    refine (begin_any hwr (by omega)).mono ?_
    rintro e w5 ⟨bv5, rfl, hwr5, hk5⟩
    have hrel0 : BegRel R w4 f bs qs sz 0 w5 := ⟨bv5, _, [], [], by simpa [tot] using hwr5, by simp, by simp, by simp, hk5⟩
    have hn : qs.length ≤ 65536 := by have := HT.out.2; omega
    have htt : bs.length + tot qs ≤ 1048576 := by have := HT.out.1; omega
    clear hwr hwr5 hk5
    go_wp2_with fail
    have HR0 : Hid (BegRel R w4 f bs qs sz 0 w5) := hrel0
    clear hrel0
    go_loopw [13, 14] (fun t i wr => ∃ k : Nat, k ≤ qs.length ∧ i = .int .i64 k ∧ t = .int .i64 (tot (qs.take k) : Nat) ∧ BegRel R w4 f bs qs sz k wr) (fun _ i _ => qs.length - (intOf i).toNat)
    case atStart => exact ⟨0, Nat.zero_le _, rfl, rfl, HR0.out⟩
    case round =>
      obtain ⟨k, hk, rfl, rfl, hrl⟩ := hrel
      by_cases hlt : k < qs.length
      · obtain ⟨bv, lv, x, ls, hW, h2, h3, h4, hKr⟩ := hrl
        have hts := tot_take qs k hlt
        have htl : tot (qs.take k) + qs[k].2.length ≤ tot qs := by
          rw [← hts]
          have e : tot qs = tot (qs.take (k + 1)) + tot (qs.drop (k + 1)) := by
            unfold tot; rw [← List.sum_append, ← List.map_append, List.take_append_drop]
          omega
        have HTS : Hid (tot (qs.take (k + 1)) = tot (qs.take k) + qs[k].2.length) := hts
        obtain ⟨ad, cap, e1, _, hat⟩ := (hC4.keep hKr).at_
        obtain ⟨b, off, ad', cap', e2, hRb, e3, hc, hrd, _⟩ := hat k hlt
        clear hat hts
        simp only [Value.slice.injEq] at e1
        obtain ⟨rfl, _, rfl⟩ := e1
        subst e2
        have hxl : (bs ++ [0, 0, 0, 0] ++ x).length ≤ 1099511627776 := by simp; omega
        have hll : ls.length ≤ 1099511627776 := by omega
        have hql : qs[k].2.length ≤ 1099511627776 := by omega
        have HST := fun (w' : World) (bv' lv' : Value) => @beg_step R w4 wr w' f bs qs sz k hlt x ls (.slice ad' qs[k].2.length cap') h2 h3 h4 hKr bv' lv'
        have HS : Hid _ := HST
        clear HST e3
        go_wp2_with fail
        refine (stretch_any hW hrd hql hxl hll).mono ?_
        rintro e w6 ⟨bv', lv', rfl, hW6, hK6⟩
        have hc6 : w6.cell? ⟨b, off + k, none⟩ = some (.slice ad' qs[k].2.length cap') := (hK6.cell (p := ⟨b, off + k, none⟩) hRb).trans hc
        have HB : Hid _ := HS.out w6 bv' lv' hW6 hK6
        clear hc hW6 hK6 hW hrd HS
        generalize qs[k].2.length = L at hc6 HTS htl hql
        go_wp2
        go_roundw
        case rel => exact ⟨k + 1, by omega, by go_num, by rw [HTS.out]; go_num, HB.out⟩
        case measure => simp [intOf]; omega
      · obtain ⟨bv, lv, x, ls, hW, h2, h3, h4, hKr⟩ := hrl
        have hkn : k = qs.length := by omega
        rw [hkn, tot_all] at hW h3
        rw [hkn] at h4
        have hbl : (bs ++ [0, 0, 0, 0] ++ x).length = bs.length + 4 + x.length := by simp; omega
        obtain ⟨g, capb, hbv, hcb, _⟩ := ownsRow_pos hW.wk.buf (by omega)
        rw [hbl] at hbv hcb
        have hcb0 : ¬ capb = 0 := by omega
        subst hbv
        have hv3r := ownsRow_keep hv34 hKr hOld3
        have hbel : Below w.heap.size w wr := hb4.trans ((hKr.mono hOld).below (fun k hk => hk))
        have hbo : wr.ownsRow 0 5 1 (.slice (some ⟨g, 0, none⟩) (bs.length + 4 + x.length) capb) (bs.length + 4 + x.length) (bcells (bs ++ [0, 0, 0, 0] ++ x)) := by
          have := hW.wk.buf; rw [hbl] at this; exact this
        have hrdb : Rd (fun _ => True) wr (.slice (some ⟨g, 0, none⟩) bs.length capb) (bcells bs) := by
          rw [List.append_assoc, bcells_append] at hbo
          exact Rd.take hbo (bcells_length _)
        have hz : ∀ j, j < 4 → wr.cell? ⟨g, bs.length + j, none⟩ = some (.int .u8 0) := by
          intro j hj
          rw [hbo.cellAt _ (by omega)]
          have : j = 0 ∨ j = 1 ∨ j = 2 ∨ j = 3 := by omega
          rcases this with rfl | rfl | rfl | rfl <;> simp [bcells]
        clear hbo
        have HZ : Hid (∀ j, j < 4 → wr.cell? ⟨g, bs.length + j, none⟩ = some (.int .u8 0)) := hz
        clear hz
        have HKN : Hid (k = qs.length) := hkn
        clear hkn hKr hv34 hOld hOld3 hC4 hb4
        go_wp2_with fail
        refine (head_any hW.wk).mono ?_
        rintro e w6 ⟨rfl, hw⟩
        obtain rfl : wr = w6 := hw.symm
        clear hw
        go_wp2_with fail
        refine (frame_any hW.wk).mono ?_
        rintro e w6 ⟨rfl, hw⟩
        obtain rfl : wr = w6 := hw.symm
        clear hw
        go_wp2_with fail
        refine (buf_any hW.wk).mono ?_
        rintro e w6 ⟨rfl, hw⟩
        obtain rfl : wr = w6 := hw.symm
        clear hw
        go_wp2_with fail
        refine (equal_any hrdb (Rd.of_own hv3r) (by omega)).mono ?_
        rintro e w6 ⟨rfl, m, hw⟩
        have hW6 : Wk w6 f (.slice (some ⟨g, 0, none⟩) (bs.length + 4 + x.length) capb) lv (bs ++ [0, 0, 0, 0] ++ x) ls bs.length 0 (wrap64 (sz + 4 + tot qs)) := by
          rw [hw]; exact hW.wk.keep ((Keep.refl (fun _ => True) wr).drewN m) trivial (fun _ _ => trivial) (fun _ _ => trivial)
        have hb6 : Below w.heap.size w w6 := by rw [hw]; exact hbel.trans (((Keep.refl (fun _ => True) wr).drewN m).below (fun _ _ => trivial))
        have HZ6 : Hid (∀ j, j < 4 → w6.cell? ⟨g, bs.length + j, none⟩ = some (.int .u8 0)) := by rw [hw]; exact HZ.out
        clear hw HZ hW hrdb hv3r hbel
        go_wp2_with fail
        go_loop [17] (fun i => ∃ j : Nat, j ≤ 4 ∧ i = .int .i64 (bs.length + j : Nat)) (fun i => bs.length + 4 - (intOf i).toNat)
        case atStart => exact ⟨0, by omega, rfl⟩
        case round =>
          obtain ⟨j, hj, rfl⟩ := hrel
          by_cases hlt2 : j < 4
          · have hcz := HZ6.out j hlt2
            go_wp2
            go_round
            case rel => exact ⟨j + 1, by omega, by go_num⟩
            case measure => simp [intOf]; omega
          · go_wp2_with fail
            refine (numLongs_any hW6).mono ?_
            rintro e w7 ⟨rfl, hw⟩
            obtain rfl : w6 = w7 := hw.symm
            clear hw HZ6
            have hll : ls.length ≤ 1099511627776 := by omega
            go_wp2_with fail
            go_loop [19] (fun i => ∃ m : Nat, m ≤ ls.length ∧ i = .int .i64 m) (fun i => ls.length - (intOf i).toNat)
            case atStart => exact ⟨0, Nat.zero_le _, rfl⟩
            case round =>
              obtain ⟨m, hm, rfl⟩ := hrel
              by_cases hlt3 : m < ls.length
              · have hge := h2 ls[m] (List.getElem_mem hlt3)
                go_wp2_with fail
                refine (longAt_any hW6 m hlt3 hll).mono ?_
                rintro e w7 ⟨rfl, hw⟩
                obtain rfl : w6 = w7 := hw.symm
                clear hw
                generalize ls[m].1 = A at hge
                go_wp2
                go_round
                case rel => exact ⟨m + 1, by omega, by go_num⟩
                case measure => simp [intOf]; omega
              · go_wp2_with fail
                refine (size_any hW6).mono ?_
                rintro e w7 ⟨rfl, hw⟩
                obtain rfl : w6 = w7 := hw.symm
                clear hw
                go_wp2
                go_ret
                refine ⟨?_, hb6⟩
                show Ending.returned (Value.bool (wrap64 (sz + 4 + (tot qs : Int)) == wrap64 (wrap64 (sz + 4) + (tot (List.take k qs) : Int)))) = _
                rw [wrap64_wrap, HKN.out, tot_all]
                simp
end Go.Proofs.Qxb6600175a
