/-
  FnScriptStreamMatchesModel (3): the walk.
-/
import Derived.Test.Qxb6600175aSoff
import Derived.Test.Qxb6600175aCount2
import Derived.Test.Qxb6600175aLater
import Derived.Deep.CutRange
import Derived.Deep.LoopGhost
import Derived.Deep.QuietTactic
import Derived.BigQuiet
namespace Go.Proofs.Qxb6600175a
open Go.RowKit
set_option linter.unusedVariables false

/-- the loop's relation -/
def SInv (q : List (Value × List Int)) (N : Nat) (U : World) (f k : Nat) (wv cp av xv lb : Value) (wr : World) : Prop :=
  ∃ bv lv bs ls hd sz LB want ats xs, cp = .int .i64 (bs.length : Nat) ∧ lb = .int .i64 LB ∧ Mem3 N wr f bv lv wv av xv bs ls hd sz want ats xs ∧ Scr q k bs ls hd sz LB want ats xs ∧ Keep (· < N) U wr
/-- and behind the begin -/
def SInv1 (q : List (Value × List Int)) (N : Nat) (U : World) (f k : Nat) (wv cp av xv lb : Value) (wr : World) : Prop :=
  ∃ bv lv bs ls hd sz LB want ats xs, cp = .int .i64 (bs.length : Nat) ∧ lb = .int .i64 LB ∧ Mem3 N wr f bv lv wv av xv bs ls hd sz want ats xs ∧ Scr1 q k bs ls hd sz LB want ats xs ∧ Keep (· < N) U wr

theorem mem3_init {w2 : World} : Mem3 w2.heap.size (w2.alloc (.cells #[.slice none 0 0, .slice none 0 0, .int .i64 0, .int .i64 0, .int .i64 0] 52)) w2.heap.size (.slice none 0 0) (.slice none 0 0) (.slice none 0 0) (.slice none 0 0) (.slice none 0 0) [] [] 0 0 [] [] [] :=
  ⟨⟨heap_alloc_new _ _, World.ownsRow_nil _ _ _ _, World.ownsRow_nil _ _ _ _⟩, by simp, World.ownsRow_nil _ _ _ _, World.ownsRow_nil _ _ _ _, World.ownsRow_nil _ _ _ _, Nat.le_refl _, by simp [Value.ownBlock], by simp [Value.ownBlock], by simp [Value.ownBlock], by simp [Value.ownBlock], by simp⟩

/-- a built slice of one int -/
theorem rd_int1 (w : World) (x : Int) : Rd (fun k => k = w.heap.size) (w.alloc (.cells #[.int .i64 x] 3)) (.slice (some ⟨w.heap.size, 0, none⟩) 1 1) (icells [x]) := by
  refine ⟨some ⟨w.heap.size, 0, none⟩, 1, rfl, by simp [icells], by simp [maxLen], (fun h => by cases h), fun _ => ⟨w.heap.size, 0, rfl, rfl, fun i u hu => ?_⟩⟩
  have hb := heap_alloc_new w (.cells #[.int .i64 x] 3)
  simp only [World.cell?, hb]
  simpa [icells] using hu
section
variable {N : Nat} {w : World} {f : Nat} {bv lv wv av xv : Value} {bs : List Int} {ls : List (Int × Value × List Int)} {hd sz : Int} {want ats xs : List Int}
theorem Mem3.keepAlloc (h : Mem3 N w f bv lv wv av xv bs ls hd sz want ats xs) (o : Obj) : Keep (· < N) w (w.alloc o) :=
  (Keep.refl _ _).alloc (fun k a => by have := h.sN; show k < w.heap.size; have : k < N := a; omega) _
theorem Mem3.atStep (h : Mem3 N w f bv lv wv av xv bs ls hd sz want ats xs) {w4 : World} {av' : Value} {x : Int} (hown : w4.ownsRow N 3 1 av' (ats.length + (icells [x]).length) (icells ats ++ icells [x])) (hg : (w.alloc (.cells #[.int .i64 x] 3)).grownBy w4 av.ownBlock)
    {H : Nat} (hH : (w.alloc (.cells #[.int .i64 x] 3)).heap.size = H) (hat : av'.ownBlock = av.ownBlock ∨ av'.ownBlock = some H) : Mem3 N w4 f bv lv wv av' xv bs ls hd sz want (ats ++ [x]) xs ∧ Keep (· < N) w w4 := by
  obtain ⟨a, b⟩ := (h.alloc (.cells #[.int .i64 x] 3)).atTo (x := [x]) (m := 1) rfl hown hg hH hat
  exact ⟨a, (h.keepAlloc _).trans b⟩
theorem Mem3.ixStep (h : Mem3 N w f bv lv wv av xv bs ls hd sz want ats xs) {w4 : World} {xv' : Value} {x : Int} (hown : w4.ownsRow N 3 1 xv' (xs.length + (icells [x]).length) (icells xs ++ icells [x])) (hg : (w.alloc (.cells #[.int .i64 x] 3)).grownBy w4 xv.ownBlock)
    {H : Nat} (hH : (w.alloc (.cells #[.int .i64 x] 3)).heap.size = H) (hat : xv'.ownBlock = xv.ownBlock ∨ xv'.ownBlock = some H) : Mem3 N w4 f bv lv wv av xv' bs ls hd sz want ats (xs ++ [x]) ∧ Keep (· < N) w w4 := by
  obtain ⟨a, b⟩ := (h.alloc (.cells #[.int .i64 x] 3)).ixTo (x := [x]) (m := 1) rfl hown hg hH hat
  exact ⟨a, (h.keepAlloc _).trans b⟩
end

theorem Wk.drawn {w : World} {f : Nat} {bv lv : Value} {bs : List Int} {ls : List (Int × Value × List Int)} {hd fr sz : Int} (h : Wk w f bv lv bs ls hd fr sz) (n : Nat) : Wk (w.drewN n) f bv lv bs ls hd fr sz :=
  h.keep ((Keep.refl (fun _ => True) w).drewN n) trivial (fun _ _ => trivial) (fun _ _ => trivial)
theorem Rd.drawn {R : Nat → Prop} {w : World} {v : Value} {cs : List Value} (h : Rd R w v cs) (n : Nat) : Rd R (w.drewN n) v cs := h.keep ((Keep.refl R w).drewN n)

theorem quiet_same {f : FuncId} {args : Array Value} {w : World} {n x : Nat} {v : Value} (h : Calls Try.prog f args (w.drewN (n + x)) fun e w' => e = .returned v ∧ w' = w.drewN (n + x)) :
    Calls Try.prog f args (w.drewN (n + x)) fun e w'' => e = .returned v ∧ ∃ m, w'' = w.drewN (n + m) := h.mono fun _ _ ⟨he, hm⟩ => ⟨he, x, hm⟩
theorem quiet_draws {f : FuncId} {args : Array Value} {w : World} {n x : Nat} {v : Value} (h : Calls Try.prog f args (w.drewN (n + x)) fun e w' => e = .returned v ∧ ∃ m, w' = (w.drewN (n + x)).drewN m) :
    Calls Try.prog f args (w.drewN (n + x)) fun e w'' => e = .returned v ∧ ∃ m, w'' = w.drewN (n + m) := h.mono fun _ _ ⟨he, m, hm⟩ => ⟨he, x + m, by rw [hm, World.drewN_drewN, Nat.add_assoc]⟩

/-- the cells that the law reads for long m -/
theorem scr_at {q : List (Value × List Int)} {N k : Nat} {w : World} {f : Nat} {bv lv wv : Value} {da dx da0 : Option Addr} {dca dcx dc0 : Nat} {bs : List Int} {ls : List (Int × Value × List Int)} {hd sz LB : Int} {want ats xs : List Int}
    (hM : Mem3 N w f bv lv wv (.slice da ls.length dca) (.slice dx ls.length dcx) bs ls hd sz want ats xs) (hS : Scr q k bs ls hd sz LB want ats xs) (hC : RdC (· < N) w (.slice da0 q.length dc0) q) (m : Nat) (hm : m < ls.length) :
    ∃ ga gx b off i ad' cap', da = some ⟨ga, 0, none⟩ ∧ dx = some ⟨gx, 0, none⟩ ∧ da0 = some ⟨b, off, none⟩ ∧ i < q.length ∧ w.cell? ⟨ga, m, none⟩ = some (.int .i64 ls[m].1) ∧ w.cell? ⟨gx, m, none⟩ = some (.int .i64 (i : Nat)) ∧
      w.cell? ⟨b, off + i, none⟩ = some (.slice ad' ls[m].2.2.length cap') ∧ ls[m].2.1 = .slice ad' ls[m].2.2.length cap' := by
  have hal : ats.length = ls.length := by have := congrArg List.length hS.at_; rwa [List.length_map] at this
  have h1 := hM.at_
  have h2 := hM.ix
  rw [hal] at h1
  rw [hS.xl] at h2
  obtain ⟨ga, ca, e1, _, _⟩ := ownsRow_pos h1 (by omega)
  obtain ⟨gx, cx, e2, _, _⟩ := ownsRow_pos h2 (by omega)
  simp only [Value.slice.injEq] at e1 e2
  obtain ⟨rfl, _, rfl⟩ := e1
  obtain ⟨rfl, _, rfl⟩ := e2
  obtain ⟨i, x1, x2⟩ := hS.ix m hm
  have hi : i < q.length := (List.getElem?_eq_some_iff.1 x2).1
  obtain ⟨ad, cap, e3, _, hat⟩ := hC.at_
  obtain ⟨b, off, ad', cap', e4, _, e5, hc, _, _⟩ := hat i hi
  simp only [Value.slice.injEq] at e3
  have hqi : q[i] = ls[m].2 := by rw [List.getElem?_eq_getElem hi] at x2; exact Option.some.inj x2
  rw [hqi] at e5 hc
  refine ⟨ga, gx, b, off, i, ad', cap', rfl, rfl, by rw [e3.1, e4], hi, ?_, ?_, hc, e5⟩
  · rw [h1.cellAt m (by omega), hS.at_]
    simp [icells, hm]
  · rw [h2.cellAt m (by omega)]
    simp [icells, x1]

set_option maxHeartbeats 8000000 in
set_option maxRecDepth 100000 in
theorem scr_walk (v0 v1 : Value) (ps : List (Value × List Int)) (bg : List Bool) (w : World) (hC : RdC (· < w.heap.size) w v0 ps) (hB : Rd (· < w.heap.size) w v1 (bg.map Value.bool)) :
    Calls Try.prog 3 #[v0, v1] w (LawPost w) := by
  obtain ⟨ad0, cap0, e0⟩ := hC.form
  obtain ⟨ad1, cap1, e1, hm1⟩ := hB.formBool
  subst e0 e1
  have HC : Hid (RdC (· < w.heap.size) w (.slice ad0 ps.length cap0) ps) := hC
  have HB : Hid (Rd (· < w.heap.size) w (.slice ad1 bg.length cap1) (bg.map Value.bool)) := hB
  clear hC hB
  go_enter Try.func3, Try.ntmps3
  go_wp2_with fail
  refine (bytes7 w _ ps HC.out ad1 bg.length cap1 hm1).mono ?_
  rintro e w' ⟨r, rfl, hw, hBd⟩
  obtain rfl : w = w' := hw.symm
  clear hw hm1
  cases r with
  | false =>
    go_wp2
    go_ret
    exact ⟨rfl, Below.refl _ _⟩
  | true =>
    have hB' := hBd rfl
    clear hBd
    by_cases hp1 : ps.length ≤ 65536
    case neg =>
      have hdt : decide ((65536 : Int) < (ps.length : Int)) = true := by simp; omega
      go_wp2
      go_ret
      exact ⟨rfl, Below.refl _ _⟩
    have hd1 : decide ((65536 : Int) < (ps.length : Int)) = false := by simp; omega
    have hd2 : decide ((1048576 : Int) < (bg.length : Int)) = false := by simp; omega
    go_wp2_with fail
    refine (chunk_any _ ps w HC.out).mono ?_
    rintro e w' ⟨r, rfl, hw⟩
    obtain rfl : w = w' := hw.symm
    clear hw
    go_wp2_with fail
    · go_ret
      exact ⟨rfl, Below.refl _ _⟩
    refine (cloneChunks_any _ ps w HC.out (by omega) (fun p hp => by have := tot_mem hp; omega)).mono ?_
    rintro e w1 ⟨c0, q, rfl, hq, hr0, hb1⟩
    obtain ⟨da0, dc0, rfl⟩ := hr0.form
    have hn : q.length ≤ 65536 := by rw [len_of_map hq]; exact hp1
    have ht : tot q + bg.length ≤ 1048576 := by rw [tot_congr hq]; omega
    have HR0 : Hid (RdC (fun k => w.heap.size ≤ k) w1 (.slice da0 q.length dc0) q) := hr0
    clear hr0 hq hd1 hd2
    go_wp2_with fail
    refine (cloneBools_any _ (bg.map Value.bool) w1 (Rd.later HB.out hb1) (bools_one bg) (by rw [List.length_map]; omega)).mono ?_
    rintro e w2 ⟨c1, rfl, ho1, hb2⟩
    rw [List.length_map] at ho1
    obtain ⟨da1, dc1, rfl, _, _⟩ := ownsRow_form ho1
    have hR1 := Rd.of_own ho1
    have HO1 : Hid (Rd (· < w2.heap.size) w2 (.slice da1 bg.length dc1) (bg.map Value.bool)) := hR1.lt
    clear ho1 hR1
    go_wp2_with fail
    refine (new0_any w2 none 0 0 0 0 0).mono ?_
    rintro e w3 ⟨rfl, hw3⟩
    have hb3 : Below w2.heap.size w2 w3 := by rw [hw3]; exact (Below.refl _ _).alloc (Nat.le_refl _) _
    have hM3 : Mem3 w2.heap.size w3 w2.heap.size (.slice none 0 0) (.slice none 0 0) (.slice none 0 0) (.slice none 0 0) (.slice none 0 0) [] [] 0 0 [] [] [] := by rw [hw3]; exact mem3_init
    have b02 : Below w.heap.size w w2 := hb1.trans (hb2.mono hb1.size)
    have HSR : Hid (Below w.heap.size w w3 ∧ RdC (· < w2.heap.size) w3 (.slice da0 q.length dc0) q ∧ Rd (· < w2.heap.size) w3 (.slice da1 bg.length dc1) (bg.map Value.bool) ∧ w.heap.size ≤ w2.heap.size) :=
      ⟨b02.trans (hb3.mono b02.size), ((RdC.later HR0.out hb2).low).keep (Keep.of_below hb3 (fun _ h => h)), HO1.out.below hb3, b02.size⟩
    have HS0 : Hid (SInv q w2.heap.size w3 w2.heap.size 0 (.slice none 0 0) (.int .i64 0) (.slice none 0 0) (.slice none 0 0) (.int .i64 (-1)) w3) :=
      ⟨_, _, [], [], 0, 0, -1, [], [], [], rfl, rfl, hM3, Scr.zero q, Keep.refl _ _⟩
    clear hw3 hb3 hM3 b02 hb1 hb2 HR0 HO1 HB HC
    generalize w2.heap.size = N at HSR HS0 ⊢
    obtain ⟨i0, hi, hz0, hz1, hz2⟩ := info_parts Try.info5
    obtain ⟨i3, hi3, hy0, hy1, hy2⟩ := info_parts Try.info3
    go_wp2
    go_loopg [6, 7, 8, 9, 10, 11] q.length (fun g wv cp av xv lb i wr => ∃ k : Nat, k ≤ q.length ∧ q.length ≤ g + k ∧ i = .int .i64 k ∧ SInv q N w3 N k wv cp av xv lb wr)
    case atStart => exact ⟨0, Nat.zero_le _, by omega, rfl, HS0.out⟩
    case round =>
      obtain ⟨k, hk, hgk, rfl, hinv⟩ := hrel
      by_cases hlt : k < q.length
      · obtain ⟨bv, lv, bs, ls, hd, sz, LB, want, ats, xs, rfl, rfl, hM, hS, hK⟩ := hinv
        have htk := tot_take_le q (k + 1)
        have hts := tot_take q k hlt
        have hwl := hS.wl
        have hbl := hS.bl
        obtain ⟨dw, dcw, hwv, _, _⟩ := ownsRow_form hM.wa
        subst hwv
        have HMS : Hid (Mem3 N wr N bv lv (.slice dw want.length dcw) _ _ bs ls hd sz want ats xs ∧ Scr q k bs ls hd sz LB want ats xs ∧ Keep (· < N) w3 wr) := ⟨hM, hS, hK⟩
        have hw1 : want.length ≤ 2097152 := by omega
        have hb1 : bs.length ≤ 2097152 := by omega
        clear hM hS hK htk hts hwl hbl
        go_upto_region 18 with (fail)
        go_cut [56] from 41 to 98 (fun s56 wx => s56 = .bool (isBeg bg k) ∧ wx = wr)
        case first =>
          by_cases hkb : k < bg.length
          · obtain ⟨b, off, rfl, _, hc⟩ := (HSR.out.2.2.1.keep HMS.out.2.2).boolAt hkb
            have e := isBeg_in hkb
            have HE : Hid (isBeg bg k = bg[k]) := e
            clear e
            generalize bg[k] = B at hc HE
            go_wp2
            go_meet
            case rel => exact ⟨by rw [HE.out], rfl⟩
          · have HE : Hid (isBeg bg k = false) := isBeg_out hkb
            have hdd : decide ((k : Int) < (bg.length : Int)) = false := by simp; omega
            go_wp2
            go_meet
            case rel => exact ⟨by rw [HE.out], rfl⟩
        case rest =>
          obtain ⟨rfl, hwx⟩ := hcut
          obtain rfl : wr = wc := hwx.symm
          clear hwx
          go_upto_if 56 with (fail)
          go_cut [6, 7, 10] from 41 to 98 (fun s6 s7 s10 wx => SInv1 q N w3 N k s6 s7 u8 u9 s10 wx)
          case first =>
            cases hbeg : isBeg bg k with
            | false =>
              go_wp2
              go_meet
              case rel => exact ⟨bv, lv, bs, ls, hd, sz, LB, want, ats, xs, rfl, rfl, HMS.out.1, HMS.out.2.1.skip, HMS.out.2.2⟩
            | true =>
              have hMa := HMS.out.1.alloc (.cells #[.int .u8 0, .int .u8 0, .int .u8 0, .int .u8 0] 5)
              have h4 := rd_four wr wr.heap.size rfl
              have hmx : want.length + (bcells [0, 0, 0, 0]).length ≤ maxLen := by simp [bcells, maxLen]; omega
              have hbx : (want.length + (bcells [0, 0, 0, 0]).length) * 1 ≤ 140737488355328 := by simp [bcells]; omega
              have hsN : N ≤ (wr.alloc (.cells #[.int .u8 0, .int .u8 0, .int .u8 0, .int .u8 0] 5)).heap.size := hMa.sN
              have HMA : Hid (_ ∧ _) := ⟨hMa, h4⟩
              clear hMa h4
              go_wp2_with (at_builtin; refine wpList_append_rd _ rfl (.tmp 59) (.tmp 60) 30 rfl N 5 i0 (.int .u8 0) 1 Try.underlying30 hi hz0 hz1 hz2 rfl _ _ _ rfl HMA.out.1.wa rfl HMA.out.2 (bcells_one _) hmx hbx hsN ?_; intro wv' w4 hown4 hgrow4 hat4)
              obtain ⟨hM4, hK4⟩ := HMA.out.1.wantTo (x := [0, 0, 0, 0]) rfl hown4 hgrow4 (by simp) hat4
              have hKa : Keep (· < N) wr (wr.alloc (.cells #[.int .u8 0, .int .u8 0, .int .u8 0, .int .u8 0] 5)) := (Keep.refl _ _).alloc (fun k a => by have := HMS.out.1.sN; show k < wr.heap.size; have : k < N := a; omega) _
              have hS1 := HMS.out.2.1.begin (by omega)
              have HS1 : Hid _ := hS1
              have hKw : Keep (· < N) w3 w4 := (HMS.out.2.2.trans hKa).trans hK4
              clear hown4 hgrow4 hat4 hmx hbx hsN hS1 hKa hK4 HMA
              refine (begin_any hM4.wr (by omega)).mono ?_
              rintro e w5 ⟨bv5, rfl, hW5, hK5⟩
              obtain ⟨hM5, hK5'⟩ := hM4.back hW5 hK5 hM4.rd
              have HM5 : Hid (_ ∧ _) := ⟨hM5, hKw.trans hK5'⟩
              clear hM4 hW5 hK5 hM5 hK5' hKw
              go_wp2
              go_meet
              case rel => exact ⟨bv5, lv, bs ++ [0, 0, 0, 0], ls, _, _, _, _, _, _, by simp, rfl, HM5.out.1, HS1.out, HM5.out.2⟩
          case rest =>
            clear HMS hw1 hb1
            obtain ⟨bv, lv, bs, ls, hd, sz, LB, want, ats, xs, rfl, rfl, hM, hS, hK⟩ := hcut
            have htk := tot_take_le q (k + 1)
            have hts := tot_take q k hlt
            have hwl := hS.wl
            have hbl := hS.bl
            have hll := hS.ll
            have hxl := hS.xl
            have hal := congrArg List.length hS.at_
            rw [List.length_map] at hal
            have hw1 : want.length ≤ 2097152 := by omega
            have hb1 : bs.length ≤ 2097152 := by omega
            have hl1 : ls.length ≤ 65536 := by omega
            have hq1 : q[k].2.length ≤ 1048576 := by omega
            obtain ⟨xa, xc, ex, _, hat⟩ := (HSR.out.2.1.keep hK).at_
            obtain ⟨b, off, ad', cap', e2, hRb, e3, hcl, hrd, _⟩ := hat k hlt
            simp only [Value.slice.injEq] at ex
            obtain ⟨rfl, _, rfl⟩ := ex
            subst e2
            have hstep := hS.step hlt (by omega) (by omega) e3
            have HST : Hid (Scr q (k + 1) (appBs bs q[k].2) (appLs bs ls (.slice ad' q[k].2.length cap') q[k].2) hd (wrap64 (sz + q[k].2.length)) LB (want ++ q[k].2) (if q[k].2.length < 512 then ats else ats ++ [(bs.length : Int)]) (if q[k].2.length < 512 then xs else xs ++ [(k : Int)])) := hstep
            have HM : Hid (Mem3 N wc N bv lv u6 u8 u9 bs ls hd sz want ats xs ∧ Keep (· < N) w3 wc ∧ Rd (· < N) wc (.slice ad' q[k].2.length cap') (bcells q[k].2)) := ⟨hM, hK, hrd⟩
            have hmxw : want.length + (bcells q[k].2).length ≤ maxLen := by rw [bcells_length]; unfold maxLen; omega
            have hbxw : (want.length + (bcells q[k].2).length) * 1 ≤ 140737488355328 := by rw [bcells_length]; omega
            clear hM hS hK htk hts hwl hbl hll hat hstep hrd e3
            by_cases hs : q[k].2.length < 512
            ·
              have e1 : appBs bs q[k].2 = bs ++ q[k].2 := if_pos hs
              rw [e1, if_pos hs, if_pos hs] at HST
              have hsN := HM.out.1.sN
              go_wp2_with (at_builtin; refine wpList_append_rd _ rfl (.tmp 87) (.tmp 91) 30 rfl N 5 i0 (.int .u8 0) 1 Try.underlying30 hi hz0 hz1 hz2 rfl _ _ _ rfl HM.out.1.wa rfl HM.out.2.2 (bcells_one _) hmxw hbxw hsN ?_; intro wv' w4 hown4 hgrow4 hat4; have hMK := HM.out.1.wantTo (x := q[k].2) (bcells_length _).symm hown4 hgrow4 rfl hat4; have hc4 : w4.cell? ⟨b, off + k, none⟩ = some (.slice ad' q[k].2.length cap') := (hMK.2.cell (p := ⟨b, off + k, none⟩) hRb).trans hcl; have HMK : Hid (_ ∧ _) := hMK; clear hMK hown4 hgrow4 hat4)
              have hrd4 : Rd (· < N) w4 (.slice ad' q[k].2.length cap') (bcells q[k].2) := HM.out.2.2.keep HMK.out.2
              refine (stretch_any HMK.out.1.wr (hrd4.mono (fun k a _ => .inl a)) (by omega) (by omega) (by omega)).mono ?_
              rintro e w5 ⟨bv', lv', rfl, hW5, hK5⟩
              have e4 : appLs bs ls (.slice ad' q[k].2.length cap') q[k].2 = ls := if_pos hs
              rw [e1, e4] at hW5
              rw [e4] at HST
              obtain ⟨hM5, hK5'⟩ := HMK.out.1.back hW5 hK5 HMK.out.1.rd
              have HE : Hid (_ ∧ _) := ⟨hM5, (HM.out.2.1.trans HMK.out.2).trans hK5'⟩
              clear hM5 hW5 hK5 hK5' HMK hrd4 hc4 hcl e1 e4
              go_wp2
              go_roundg (q.length - (k + 1))
              case measure => omega
              case rel => exact ⟨k + 1, by omega, by omega, by go_num, ⟨bv', lv', bs ++ q[k].2, ls, hd, _, LB, _, ats, xs, by simp, rfl, HE.out.1, HST.out, HE.out.2⟩⟩
            ·
              have e1 : appBs bs q[k].2 = bs := if_neg hs
              have e4 : appLs bs ls (.slice ad' q[k].2.length cap') q[k].2 = ls ++ [((bs.length : Int), .slice ad' q[k].2.length cap', q[k].2)] := if_neg hs
              rw [e1, e4, if_neg hs, if_neg hs] at HST
              have hmxa : ats.length + (icells [(bs.length : Int)]).length ≤ maxLen := by rw [icells_length]; simp [maxLen]; omega
              have hbxa : (ats.length + (icells [(bs.length : Int)]).length) * 8 ≤ 140737488355328 := by rw [icells_length]; simp; omega
              have hmxx : xs.length + (icells [(k : Int)]).length ≤ maxLen := by rw [icells_length]; simp [maxLen]; omega
              have hbxx : (xs.length + (icells [(k : Int)]).length) * 8 ≤ 140737488355328 := by rw [icells_length]; simp; omega
              clear hal hxl
              go_wp2_with (first | (at_builtin; refine wpList_append_rd _ rfl (.tmp 72) (.tmp 74) 31 rfl N 3 i3 (.int .i64 0) 8 Try.underlying31 hi3 hy0 hy1 hy2 rfl u8 ats.length (icells ats) rfl (HM.out.1.alloc _).at_ rfl (rd_int1 wc (bs.length : Int)) (ints_oneCell _ _) hmxa hbxa (HM.out.1.alloc _).sN ?_; intro av' w4 hown4 hgrow4 hat4; have HMK4 : Hid (_ ∧ _) := HM.out.1.atStep hown4 hgrow4 rfl hat4; clear hown4 hgrow4 hat4) | (at_builtin; refine wpList_append_rd _ rfl (.tmp 76) (.tmp 78) 31 rfl N 3 i3 (.int .i64 0) 8 Try.underlying31 hi3 hy0 hy1 hy2 rfl u9 xs.length (icells xs) rfl (HMK4.out.1.alloc _).ix rfl (rd_int1 w4 (k : Int)) (ints_oneCell _ _) hmxx hbxx (HMK4.out.1.alloc _).sN ?_; intro xv' w5 hown5 hgrow5 hat5; have hMK5 := HMK4.out.1.ixStep hown5 hgrow5 rfl hat5; have hc5 : w5.cell? ⟨b, off + k, none⟩ = some (.slice ad' q[k].2.length cap') := ((HMK4.out.2.trans hMK5.2).cell (p := ⟨b, off + k, none⟩) hRb).trans hcl; have HMK5 : Hid (_ ∧ _) := hMK5; clear hMK5 hown5 hgrow5 hat5) | (at_builtin; refine wpList_append_rd _ rfl (.tmp 87) (.tmp 91) 30 rfl N 5 i0 (.int .u8 0) 1 Try.underlying30 hi hz0 hz1 hz2 rfl u6 want.length (bcells want) rfl HMK5.out.1.wa rfl (HM.out.2.2.keep (HMK4.out.2.trans HMK5.out.2)) (bcells_one _) hmxw hbxw HMK5.out.1.sN ?_; intro wv' w6 hown6 hgrow6 hat6; have hMK6 := HMK5.out.1.wantTo (x := q[k].2) (bcells_length _).symm hown6 hgrow6 rfl hat6; have hc6 : w6.cell? ⟨b, off + k, none⟩ = some (.slice ad' q[k].2.length cap') := (((HMK4.out.2.trans HMK5.out.2).trans hMK6.2).cell (p := ⟨b, off + k, none⟩) hRb).trans hcl; have HMK6 : Hid (_ ∧ _) := hMK6; clear hMK6 hown6 hgrow6 hat6))
              have hKK := (HMK4.out.2.trans HMK5.out.2).trans HMK6.out.2
              have hrd6 : Rd (· < N) w6 (.slice ad' q[k].2.length cap') (bcells q[k].2) := HM.out.2.2.keep hKK
              refine (stretch_any HMK6.out.1.wr (hrd6.mono (fun k a _ => .inl a)) (by omega) (by omega) (by omega)).mono ?_
              rintro e w7 ⟨bv', lv', rfl, hW7, hK7⟩
              rw [e1, e4] at hW7
              obtain ⟨hM7, hK7'⟩ := HMK6.out.1.back hW7 hK7 (by
                intro p hp
                rcases List.mem_append.1 hp with hp | hp
                · exact HMK6.out.1.rd p hp
                · simp at hp; subst hp; exact hrd6)
              have HE : Hid (_ ∧ _) := ⟨hM7, (HM.out.2.1.trans hKK).trans hK7'⟩
              clear hM7 hW7 hK7 hK7' HMK4 HMK5 HMK6 hrd6 hc5 hc6 hcl e1 e4 hKK
              go_wp2
              go_roundg (q.length - (k + 1))
              case measure => omega
              case rel => exact ⟨k + 1, by omega, by omega, by go_num, ⟨bv', lv', bs, _, hd, _, LB, _, _, _, rfl, rfl, HE.out.1, HST.out, HE.out.2⟩⟩
      · obtain ⟨bv, lv, bs, ls, hd, sz, LB, want, ats, xs, rfl, rfl, hM, hS, hK⟩ := hinv
        have hkq : k = q.length := by omega
        have hwl := hS.wl
        have hbl := hS.bl
        have hll := hS.ll
        rw [hkq, tot_all] at hwl hbl
        have hw1 : want.length ≤ 2097152 := by omega
        have hb1 : bs.length ≤ 2097152 := by omega
        have hl1 : ls.length ≤ 65536 := by omega
        have hxl := hS.xl
        have hal : ats.length = ls.length := by have := congrArg List.length hS.at_; rwa [List.length_map] at this
        obtain ⟨dw, dcw, hwv, _, _⟩ := ownsRow_form hM.wa
        obtain ⟨dx, dcx, hxv, _, _⟩ := ownsRow_form hM.ix
        obtain ⟨da, dca, hav, _, _⟩ := ownsRow_form hM.at_
        obtain ⟨db, dcb, hbv, _, _⟩ := ownsRow_form hM.wk.buf
        rw [hxl] at hxv
        rw [hal] at hav
        subst hwv hxv hav hbv
        obtain ⟨rfl⟩ := hS.sz_
        have hfl : (flat bs 0 ls).length ≤ 1099511627776 := by rw [hS.fl]; omega
        have hlt' := flat_length (Nat.zero_le _) hS.pl
        rw [hS.fl] at hlt'
        have hlt2 : ltot ls ≤ 2097152 := by omega
        have hc := flatten_any hM.wk hM.rd hS.pl (by omega) (by omega) hfl
        rw [hS.fl] at hc
        have HMS : Hid (Mem3 N wr N (.slice db bs.length dcb) lv (.slice dw want.length dcw) (.slice da ls.length dca) (.slice dx ls.length dcx) bs ls hd (want.length : Nat) want ats xs ∧ Scr q k bs ls hd (want.length : Nat) LB want ats xs ∧ Keep (· < N) w3 wr) := ⟨hM, hS, hK⟩
        have hbw : Below w.heap.size w wr := HSR.out.1.trans (hK.below (fun k hk => by have := HSR.out.2.2.2; show k < N; omega))
        clear hM hS hK hwl hbl hll hxl hal hfl hlt' hkq
        go_wp2_with fail
        refine hc.mono ?_
        clear hc
        rintro e w4 ⟨ov, rfl, hov, b4⟩
        have hM4 := HMS.out.1.move b4.size (fun k hk => b4.block k hk)
        have hE1 := Rd.of_own hov
        have hE2 := Rd.of_own hM4.wa
        have hb4 : Below w.heap.size w w4 := hbw.trans (b4.mono hbw.size)
        clear hov hbw
        go_wp2_with fail
        refine (equal_any hE1 hE2 (by omega)).mono ?_
        rintro e w5 ⟨rfl, n5, hw5⟩
        have hM5 := hM4.drewN n5
        have b5 := below_drawn hw5
        rw [← hw5] at hM5
        have hb5 : Below w.heap.size w w5 := hb4.trans (b5.mono hb4.size)
        have hK5 : Keep (· < N) w3 w5 := (HMS.out.2.2.trans (Keep.of_below b4 (fun k hk => by have := HMS.out.1.sN; show k < wr.heap.size; have : k < N := hk; omega))).trans (Keep.of_below b5 (fun k hk => by have := hM4.sN; show k < w4.heap.size; have : k < N := hk; omega))
        have HM5 : Hid (Mem3 N w5 N (.slice db bs.length dcb) lv (.slice dw want.length dcw) (.slice da ls.length dca) (.slice dx ls.length dcx) bs ls hd (want.length : Nat) want ats xs ∧ Scr q k bs ls hd (want.length : Nat) LB want ats xs ∧ Keep (· < N) w3 w5) := ⟨hM5, HMS.out.2.1, hK5⟩
        clear hE1 hE2 hM4 hM5 hw5 b4 b5 hb4 hK5 HMS
        go_wp2_with fail
        refine (size_any HM5.out.1.wk).mono ?_
        rintro e w6 ⟨rfl, hw⟩
        obtain rfl : w5 = w6 := hw.symm
        clear hw
        go_wp2_with fail
        refine (buf_any HM5.out.1.wk).mono ?_
        rintro e w6 ⟨rfl, hw⟩
        obtain rfl : w5 = w6 := hw.symm
        clear hw
        go_wp2_with fail
        refine (numLongs_any HM5.out.1.wk).mono ?_
        rintro e w6 ⟨rfl, hw⟩
        obtain rfl : w5 = w6 := hw.symm
        clear hw
        go_wp2_with fail
        go_loopw [15] (fun i wx => ∃ m n : Nat, m ≤ ls.length ∧ i = .int .i64 m ∧ wx = w5.drewN n) (fun i _ => ls.length - (intOf i).toNat)
        case atStart => exact ⟨0, 0, Nat.zero_le _, rfl, rfl⟩
        case round =>
          obtain ⟨m, n, hm, rfl, rfl⟩ := hrel
          by_cases hltm : m < ls.length
          ·
            obtain ⟨ga, gx, b, off, i, ad', cap', rfl, rfl, rfl, hiq, c1, c2, c3, ev⟩ := scr_at HM5.out.1 HM5.out.2.1 (HSR.out.2.1.keep HM5.out.2.2) m hltm
            have hrdm := HM5.out.1.rd _ (List.getElem_mem hltm)
            have hlen2 : ls[m].2.2.length ≤ 2097152 := by
              obtain ⟨_, _, x2⟩ := HM5.out.2.1.ix m hltm
              have hi2 := (List.getElem?_eq_some_iff.1 x2).1
              have := tot_mem (List.mem_of_getElem? x2)
              omega
            have HLA : Hid (∀ W, Wk W N (.slice db bs.length dcb) lv bs ls hd 0 (want.length : Nat) → Calls Try.prog 19 #[.pointer (some ⟨N, 0, none⟩), .int .i64 m] W fun e w' => e = .returned (.int .i64 ls[m].1) ∧ w' = W) := fun W h => longAt_any h m hltm (by omega)
            have HLB : Hid (∀ W, Wk W N (.slice db bs.length dcb) lv bs ls hd 0 (want.length : Nat) → Calls Try.prog 20 #[.pointer (some ⟨N, 0, none⟩), .int .i64 m] W fun e w' => e = .returned (.slice ad' ls[m].2.2.length cap') ∧ w' = W) := fun W h => by rw [← ev]; exact longBytes_any h m hltm (by omega)
            rw [ev] at hrdm
            have HEQ : Hid (∀ W, Rd (· < N) W (.slice ad' ls[m].2.2.length cap') (bcells ls[m].2.2) → Calls Try.prog 15 #[.slice ad' ls[m].2.2.length cap', .slice ad' ls[m].2.2.length cap'] W fun e w' => e = .returned (.bool true) ∧ ∃ n, w' = W.drewN n) := fun W h => equal_any h h (by omega)
            have HRD : Hid (Rd (· < N) w5 (.slice ad' ls[m].2.2.length cap') (bcells ls[m].2.2)) := hrdm
            clear hrdm ev
            generalize ls[m].1 = A at c1 HLA
            generalize ls[m].2.2 = pb at c3 HLB HEQ HRD hlen2
            have hm1 : (m : Int) < (ls.length : Int) := by omega
            have hi1 : (i : Int) < (q.length : Int) := by omega
            go_wp2
            go_quiet ((go_at_call 19; exact quiet_same (HLA.out _ (HM5.out.1.wk.drawn _))))
            go_wp2
            go_quiet ((first | (go_at_call 20; exact quiet_same (HLB.out _ (HM5.out.1.wk.drawn _))) | (go_at_call 15; exact quiet_draws (HEQ.out _ (HRD.out.drawn _)))))
            go_wp2
            go_roundw
            case rel => exact ⟨m + 1, _, by omega, by go_num, rfl⟩
            case measure => simp [intOf]; omega
          · have hWX := HM5.out.1.wk.drawn n
            have hRX : ∀ p ∈ ls, Rd (· < N) (w5.drewN n) p.2.1 (bcells p.2.2) := fun p hp => (HM5.out.1.rd p hp).drawn n
            have hbX : Below w.heap.size w (w5.drewN n) := hb5.trans ((below_drawn (w := w5) (n := n) rfl).mono hb5.size)
            have hHD := HM5.out.2.1.hd_
            generalize w5.drewN n = w6 at hWX hRX hbX ⊢
            have HH : Hid (HeadAt bs ls hd LB) := hHD
            have HX : Hid ((∀ p ∈ ls, Rd (· < N) w6 p.2.1 (bcells p.2.2)) ∧ Below w.heap.size w w6) := ⟨hRX, hbX⟩
            clear hHD hRX hbX HM5 hb5
            go_wp2_with fail
            refine (frame_any hWX).mono ?_
            rintro e w7 ⟨rfl, hw⟩
            obtain rfl : w6 = w7 := hw.symm
            clear hw
            rcases HH.out with hL | ⟨h, hh1, hh2, hh3⟩
            · subst hL
              clear HH
              go_wp2
              go_ret
              exact ⟨rfl, HX.out.2⟩
            · subst hh1 hh3
              clear HH
              have hsl := soff_le h ls
              go_wp2_with fail
              refine (head_any hWX).mono ?_
              rintro e w7 ⟨rfl, hw⟩
              obtain rfl : w6 = w7 := hw.symm
              clear hw
              go_wp2_with fail
              refine (buf_any hWX).mono ?_
              rintro e w7 ⟨rfl, hw⟩
              obtain rfl : w6 = w7 := hw.symm
              clear hw
              have hd1 : decide ((h : Int) < 0) = false := by simp
              go_wp2_with fail
              refine (soff_any hWX HX.out.1 h (by omega) (by omega)).mono ?_
              rintro e w7 ⟨rfl, hw⟩
              obtain rfl : w6 = w7 := hw.symm
              clear hw
              go_wp2
              go_ret
              exact ⟨rfl, HX.out.2⟩
end Go.Proofs.Qxb6600175a
