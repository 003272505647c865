/-
  FnStretchSplitInvariant (5): the walk.
-/
import Derived.Test.Qxb6600175aPlain
import Derived.Test.Qxb6600175aNew
import Derived.Test.Qxb6600175aCount2
import Derived.Deep.CutRange
namespace Go.Proofs.Qxb6600175a
open Go.RowKit
set_option linter.unusedVariables false

theorem Rd.formV {R : Nat → Prop} {w : World} {v : Value} {cs : List Value} (h : Rd R w v cs) : ∃ ad cap, v = .slice ad cs.length cap ∧ cs.length ≤ maxLen := by
  obtain ⟨ad, cap, e, h1, h2, _⟩ := h
  exact ⟨ad, cap, e, by omega⟩

/-- what the law's own loop has looked at: the first k longs stand in order, the last at prev -/
def Seen (n : Nat) (L : List (Int × Value × List Int)) (k prev : Nat) : Prop := prev ≤ n ∧ ∀ rest, placed n prev rest → placed n 0 (L.take k ++ rest)
theorem Seen.zero (n : Nat) (L : List (Int × Value × List Int)) : Seen n L 0 0 := ⟨Nat.zero_le _, fun rest h => by simpa using h⟩
theorem Seen.next {n : Nat} {ats : List Int} {q : List (Value × List Int)} {k prev : Nat} (h : Seen n (ats.zip q) k prev) (h1 : k < ats.length) (h2 : k < q.length) (ha : (prev : Int) ≤ ats[k]) (hb : ats[k] ≤ n) : Seen n (ats.zip q) (k + 1) ats[k].toNat := by
  refine ⟨by omega, fun rest hr => ?_⟩
  rw [zip_take ats q k h1 h2, List.append_assoc]
  exact h.2 _ ⟨ha, hb, hr⟩
theorem Seen.all {n : Nat} {L : List (Int × Value × List Int)} {k prev : Nat} (h : Seen n L k prev) (hk : L.length ≤ k) : placed n 0 L := by
  have := h.2 [] trivial
  rwa [List.append_nil, List.take_of_length_le hk] at this

theorem RdC.below {R : Nat → Prop} {w w' : World} {v : Value} {ps : List (Value × List Int)} (h : RdC R w v ps) (hb : Below w.heap.size w w') : RdC R w' v ps := by
  have := (h.mono (R' := fun k => R k ∧ k < w.heap.size) (fun k a b => ⟨a, b⟩)).keep (w' := w') (Keep.of_below hb (fun k x => x.2))
  exact this.mono (fun k a _ => a.1)
theorem RdC.lt {R : Nat → Prop} {w : World} {v : Value} {ps : List (Value × List Int)} (h : RdC R w v ps) : RdC (· < w.heap.size) w v ps := h.mono (fun _ _ h => h)
theorem Rd.belowAny {R : Nat → Prop} {w w' : World} {v : Value} {cs : List Value} (h : Rd R w v cs) (hb : Below w.heap.size w w') : Rd R w' v cs := by
  have := (h.mono (R' := fun k => R k ∧ k < w.heap.size) (fun k a b => ⟨a, b⟩)).keep (w' := w') (Keep.of_below hb (fun k x => x.2))
  exact this.mono (fun k a _ => a.1)

/-- a writer made by the three clones and New -/
theorem WIn.make4 {u0 u1 u2 u3 x : World} {bv lv v2 : Value} {bs ats : List Int} {q : List (Value × List Int)} {hd fr sz : Int}
    (h1 : u1.ownsRow u0.heap.size 5 1 bv bs.length (bcells bs)) (b1 : Below u0.heap.size u0 u1) (b2 : Below u1.heap.size u1 u2) (hq : RdC (fun k => u2.heap.size ≤ k) u3 v2 q) (b3 : Below u2.heap.size u2 u3)
    (hl : x.ownsRow u3.heap.size 50 2 lv (ats.zip q).length (lcells (ats.zip q))) (b4 : Below u3.heap.size u3 x) :
    WIn u0.heap.size (x.alloc (.cells #[bv, lv, .int .i64 hd, .int .i64 fr, .int .i64 sz] 52)) x.heap.size bv lv bs (ats.zip q) hd fr sz ∧ Below u0.heap.size u0 (x.alloc (.cells #[bv, lv, .int .i64 hd, .int .i64 fr, .int .i64 sz] 52)) := by
  have s1 := b1.size
  have s2 := b2.size
  have s3 := b3.size
  have s4 := b4.size
  have b13 : Below u1.heap.size u1 u3 := b2.trans (b3.mono s2)
  refine ⟨WIn.make (u := u3) (ownsRow_block h1 (fun k hk => b13.block k (ownsRow_lt h1 hk).2)) (hq.mono (fun k a _ => ⟨by omega, fun e => by have := (ownsRow_lt h1 e).2; omega⟩)) (by omega) hl b4, ?_⟩
  exact ((b1.trans (b13.mono s1)).trans (b4.mono (by omega))).alloc (by omega) _

/-- what the law reads again and again: six slices below N -/
structure Srcs (N : Nat) (w : World) (va vb vc vd ve vf : Value) (bs ats : List Int) (q2 q6 : List (Value × List Int)) (wh fl : List Int) : Prop where
  a : Rd (· < N) w va (bcells bs)
  b : Rd (· < N) w vb (ats.map (Value.int .i64))
  c : RdC (· < N) w vc q2
  d : RdC (· < N) w vd q6
  e : Rd (· < N) w ve (bcells wh)
  f : Rd (· < N) w vf (bcells fl)
theorem Srcs.keep {R : Nat → Prop} {N : Nat} {w w' : World} {va vb vc vd ve vf : Value} {bs ats : List Int} {q2 q6 : List (Value × List Int)} {wh fl : List Int} (h : Srcs N w va vb vc vd ve vf bs ats q2 q6 wh fl) (hk : Keep R w w') (hR : ∀ k, k < N → R k) :
    Srcs N w' va vb vc vd ve vf bs ats q2 q6 wh fl :=
  have k := hk.mono hR
  ⟨h.a.keep k, h.b.keep k, h.c.keep k, h.d.keep k, h.e.keep k, h.f.keep k⟩
theorem Srcs.below {N : Nat} {w w' : World} {va vb vc vd ve vf : Value} {bs ats : List Int} {q2 q6 : List (Value × List Int)} {wh fl : List Int} (h : Srcs N w va vb vc vd ve vf bs ats q2 q6 wh fl) (hk : Below N w w') : Srcs N w' va vb vc vd ve vf bs ats q2 q6 wh fl :=
  h.keep (Keep.of_below hk (fun _ h => h)) (fun _ h => h)

theorem Wk.apart {w : World} {f : Nat} {bv lv : Value} {bs : List Int} {ls : List (Int × Value × List Int)} {hd fr sz : Int} (h : Wk w f bv lv bs ls hd fr sz) {k : Nat} (hk : w.heap.size ≤ k) : Apart f bv lv k :=
  ⟨by have := lt_of_block h.blk; omega, fun e => by have := (ownsRow_lt h.buf e).2; omega, fun e => by have := (ownsRow_lt h.lng e).2; omega⟩

theorem bel_of_nil {w w' : World} (h : w.grownBy w' (Value.slice none 0 0).ownBlock) : Below w.heap.size w w' := (Below.refl _ _).grown h (Nat.le_refl _) (fun k hk => by cases hk)
theorem bel_drewN {w w' : World} {n : Nat} (h : w' = w.drewN n) : Below w.heap.size w w' := by
  rw [h]; exact ((Keep.refl (fun _ => True) w).drewN n).below (fun _ _ => trivial)

/-- behind the making of the two writers: what the loop over fa starts from -/
theorem spl_init {N : Nat} {w11 w15 : World} {fa fb : Nat} {va lva vb lvb : Value} {bs ats : List Int} {qa qb q2 q6 : List (Value × List Int)} {hd fr sz : Int} {s0 s1 s2 v6 sw sf : Value} {wh fl : List Int}
    (hWa : WIn N w11 fa va lva bs (ats.zip qa) hd fr sz) (b : Below w11.heap.size w11 w15) (hWb : WIn w11.heap.size w15 fb vb lvb bs (ats.zip qb) hd fr sz) (hS : Srcs N w11 s0 s1 s2 v6 sw sf bs ats q2 q6 wh fl) (hN : N ≤ w11.heap.size)
    (hpl : placed bs.length 0 (ats.zip qa)) (hfl : flat bs 0 (ats.zip qa) = fl) (hsz : wrap64 sz = sz) :
    ∃ R Q : Nat → Prop, StrRel R Q w15 fa fl bs.length ats.length hd fr sz q6 0 w15 ∧ RdC Q w15 v6 q6 ∧ (∀ k, Q k → R k) ∧ (∀ k, k < N → Q k) ∧ (∀ k, w11.heap.size ≤ k → k < w15.heap.size → R k) ∧ (∀ k, Q k → k < w11.heap.size) := by
  have hs := b.size
  have hW := (hWa.below b).wr
  refine ⟨fun k => k < w15.heap.size ∧ Apart fa va lva k, fun k => k < w11.heap.size ∧ Apart fa va lva k, ?_, ?_, fun k x => ⟨by have := x.1; omega, x.2⟩, fun k x => ⟨by omega, hWa.apart x⟩, fun k a c => ⟨c, hWa.wk.apart a⟩, fun k x => x.1⟩
  · refine ⟨va, lva, bs, ats.zip qa, ?_, ?_, hpl, ?_, by simp [tot], by simp; omega, Keep.refl _ _⟩
    · have e : wrap64 (sz + ((tot (q6.take 0) : Nat) : Int)) = sz := by simpa [tot] using hsz
      rw [e]; exact hW
    · intro p hp
      exact ((hWa.rd p hp).mono (R' := fun k => k < w11.heap.size ∧ Apart fa va lva k) (fun k a c => ⟨c, a.2⟩)).belowAny b
    · rw [hfl]; simp [join]
  · exact (hS.d.mono (R' := fun k => k < w11.heap.size ∧ Apart fa va lva k) (fun k a _ => ⟨by omega, hWa.apart a⟩)).below b

/-- behind the loop over fa and the clone of the whole: what the one stretch on fb starts from -/
theorem spl_mid {R Q : Nat → Prop} {N M : Nat} {w15 w16 w17 : World} {fa fb : Nat} {va lva vb lvb cw : Value} {bs ats bsa : List Int} {qb q2 q6 : List (Value × List Int)} {lsa : List (Int × Value × List Int)} {hd fr sz sz' : Int} {s0 s1 s2 v6 sw sf : Value} {wh fl : List Int}
    (hWa : Wr R w16 fa va lva bsa lsa hd fr sz') (hQ : ∀ p ∈ lsa, Rd Q w16 p.2.1 (bcells p.2.2)) (hK : Keep R w15 w16) (hWb : WIn M w15 fb vb lvb bs (ats.zip qb) hd fr sz) (hS : Srcs N w15 s0 s1 s2 v6 sw sf bs ats q2 q6 wh fl)
    (f3 : ∀ k, Q k → R k) (f4 : ∀ k, k < N → Q k) (f5 : ∀ k, M ≤ k → k < w15.heap.size → R k) (f6 : ∀ k, Q k → k < M)
    (hcw : w17.ownsRow w16.heap.size 5 1 cw wh.length (bcells wh)) (b : Below w16.heap.size w16 w17) :
    ∃ Rb : Nat → Prop, Wr Rb w17 fb vb lvb bs (ats.zip qb) hd fr sz ∧ Rd Rb w17 cw (bcells wh) ∧ (∀ k, k < N → Rb k) ∧ Wk w17 fa va lva bsa lsa hd fr sz' ∧ Rb fa ∧ (∀ k, va.ownBlock = some k → Rb k) ∧ (∀ k, lva.ownBlock = some k → Rb k) ∧
      (∀ p ∈ lsa, Rd Rb w17 p.2.1 (bcells p.2.2)) ∧ Srcs N w17 s0 s1 s2 v6 sw sf bs ats q2 q6 wh fl := by
  have s1' := hK.size
  have s2' := b.size
  have hWb16 := hWb.keep hK f5
  have hWb17 := hWb16.below b
  have lf := lt_of_block hWb.wk.blk
  have notMine : ∀ k, k < w16.heap.size → ¬ R k → k < w17.heap.size ∧ Apart fb vb lvb k := fun k hk hn =>
    ⟨by omega, fun e => hn (by rw [e]; exact f5 _ hWb.f_ge lf), fun e => hn (f5 _ (hWb.b_ge k e) (ownsRow_lt hWb.wk.buf e).2), fun e => hn (f5 _ (hWb.l_ge k e) (ownsRow_lt hWb.wk.lng e).2)⟩
  have ofQ : ∀ k, Q k → k < w17.heap.size ∧ Apart fb vb lvb k := fun k hq => by
    have := f6 k hq
    refine ⟨?_, hWb.apart this⟩
    have := hWa.lt k (f3 k hq)
    omega
  refine ⟨fun k => k < w17.heap.size ∧ Apart fb vb lvb k, hWb17.wr, ?_, fun k hk => ofQ k (f4 k hk), hWa.wk.below b, notMine _ (lt_of_block hWa.wk.blk) hWa.nf, fun k hk => notMine k (ownsRow_lt hWa.wk.buf hk).2 (hWa.nb k hk), fun k hk => notMine k (ownsRow_lt hWa.wk.lng hk).2 (hWa.nl k hk), ?_, ?_⟩
  · exact (Rd.of_own hcw).mono (fun k e _ => by
      have h := ownsRow_lt hcw e
      exact ⟨h.2, hWb16.wk.apart h.1⟩)
  · intro p hp
    exact ((hQ p hp).belowAny b).mono (fun k a _ => ofQ k a)
  · have h16 := hS.keep hK (fun k hk => f3 k (f4 k hk))
    refine h16.keep (R := fun k => k < w16.heap.size) (Keep.of_below b (fun _ h => h)) (fun k hk => ?_)
    exact hWa.lt k (f3 k (f4 k hk))

set_option maxHeartbeats 8000000 in
set_option maxRecDepth 100000 in
theorem spl_walk (v0 v1 v2 v6 : Value) (hd fr sz : Int) (bs ats : List Int) (p2 p6 : List (Value × List Int)) (w : World) (h0 : Rd (· < w.heap.size) w v0 (bcells bs)) (h1 : Rd (· < w.heap.size) w v1 (ats.map (Value.int .i64)))
    (hC2 : RdC (· < w.heap.size) w v2 p2) (hC6 : RdC (· < w.heap.size) w v6 p6) (HSZ : Hid (wrap64 sz = sz)) :
    Calls Try.prog 5 #[v0, v1, v2, .int .i64 hd, .int .i64 fr, .int .i64 sz, v6] w (LawPost w) := by
  obtain ⟨ad0, cap0, e0, hm0⟩ := h0.formV
  obtain ⟨ad1, cap1, e1, hm1⟩ := h1.formV
  obtain ⟨ad2, cap2, e2⟩ := hC2.form
  obtain ⟨ad6, cap6, e6⟩ := hC6.form
  rw [bcells_length] at e0 hm0
  rw [List.length_map] at e1 hm1
  subst e0 e1 e2 e6
  have HA1 : Hid (∀ k (hk : k < ats.length), ∃ b off, ad1 = some ⟨b, off, none⟩ ∧ w.cell? ⟨b, off + k, none⟩ = some (.int .i64 ats[k])) := by
    intro k hk
    obtain ⟨ad, cap, e, _, _, _, h4⟩ := h1
    obtain ⟨b, off, e4, _, hc⟩ := h4 (by intro e; have := congrArg List.length e; rw [List.length_map] at this; simp at this; subst this; simp at hk)
    simp at e
    exact ⟨b, off, by rw [e.1, e4], hc k _ (by simp [hk])⟩
  have HR0 : Hid (Rd (· < w.heap.size) w (.slice ad0 bs.length cap0) (bcells bs)) := h0
  have HR1 : Hid (Rd (· < w.heap.size) w (.slice ad1 ats.length cap1) (ats.map (Value.int .i64))) := h1
  have HR2 : Hid (RdC (· < w.heap.size) w (.slice ad2 p2.length cap2) p2) := hC2
  have HR6 : Hid (RdC (· < w.heap.size) w (.slice ad6 p6.length cap6) p6) := hC6
  clear h0 h1 hC2 hC6
  go_enter Try.func5, Try.ntmps5
  go_wp2_with fail
  refine (bytes30 w ad0 bs.length cap0 hm0 ad1 ats.length cap1 hm1 _ p2 HR2.out hd fr sz _ p6 HR6.out).mono ?_
  rintro e w' ⟨r, rfl, hw, hB⟩
  obtain rfl : w = w' := hw.symm
  clear hw
  cases r with
  | false =>
    go_wp2
    go_ret
    exact ⟨rfl, Below.refl _ _⟩
  | true =>
    have hB' := hB rfl
    clear hB hm0 hm1
    have hdf0 : decide ((1048576 : Int) < (bs.length : Int)) = false := by simp; omega
    by_cases hc1 : ats.length ≤ 65536
    case neg =>
      have hdt : decide ((65536 : Int) < (ats.length : Int)) = true := by simp; omega
      go_wp2
      go_ret
      exact ⟨rfl, Below.refl _ _⟩
    have hdf1 : decide ((65536 : Int) < (ats.length : Int)) = false := by simp; omega
    by_cases hc2 : p2.length ≤ 65536
    case neg =>
      have hdt : decide ((65536 : Int) < (p2.length : Int)) = true := by simp; omega
      go_wp2
      go_ret
      exact ⟨rfl, Below.refl _ _⟩
    have hdf2 : decide ((65536 : Int) < (p2.length : Int)) = false := by simp; omega
    by_cases hc3 : p6.length ≤ 65536
    case neg =>
      have hdt : decide ((65536 : Int) < (p6.length : Int)) = true := by simp; omega
      go_wp2
      go_ret
      exact ⟨rfl, Below.refl _ _⟩
    have hdf3 : decide ((65536 : Int) < (p6.length : Int)) = false := by simp; omega
    by_cases hc4 : bs.length + 8 * ats.length ≤ 1048576
    case neg =>
      go_wp2
      go_ret
      exact ⟨rfl, Below.refl _ _⟩
    go_wp2_with fail
    refine (chunk_any _ p2 w HR2.out).mono ?_
    rintro e w' ⟨r, rfl, hw⟩
    obtain rfl : w = w' := hw.symm
    clear hw
    go_wp2_with fail
    · go_ret
      exact ⟨rfl, Below.refl _ _⟩
    refine (chunk_any _ p6 w HR6.out).mono ?_
    rintro e w' ⟨r', rfl, hw⟩
    obtain rfl : w = w' := hw.symm
    clear hw
    obtain ⟨M, hM⟩ : ∃ M, M = (ats.zip p2).length := ⟨_, rfl⟩
    have hM1 : M ≤ ats.length := by rw [hM]; simp; omega
    have hM2 : M ≤ p2.length := by rw [hM]; simp; omega
    have hM3 : p2.length ≤ M ∨ ats.length ≤ M := by rw [hM]; simp; omega
    have HM : Hid (M = (ats.zip p2).length) := hM
    clear hM
    go_upto_if 85 with (fail)
    · go_ret
      exact ⟨rfl, Below.refl _ _⟩
    go_cut [16] from 33 (fun s16 wx => s16 = .int .i64 (M : Nat) ∧ wx = w)
    case first =>
      by_cases hm : p2.length < ats.length
      · go_wp2
        go_meet
        case rel => exact ⟨by rw [show M = p2.length from by omega], rfl⟩
      · go_wp2
        go_meet
        case rel => exact ⟨by rw [show M = ats.length from by omega], rfl⟩
    case rest =>
      obtain ⟨rfl, hwc⟩ := hcut
      obtain rfl : w = wc := hwc.symm
      clear hwc hM3 hdf0 hdf1 hdf2 hdf3
      go_wp2
      go_loop [17, 18, 19] (fun p i a => ∃ k prev : Nat, k ≤ M ∧ i = .int .i64 k ∧ p = .int .i64 prev ∧ prev ≤ bs.length ∧ Seen bs.length (ats.zip p2) k prev) (fun _ i _ => M - (intOf i).toNat)
      case atStart => exact ⟨0, 0, Nat.zero_le _, rfl, rfl, Nat.zero_le _, Seen.zero _ _⟩
      case round =>
        obtain ⟨k, prev, hk, rfl, rfl, hpr, hseen⟩ := hrel
        have HSE : Hid (Seen bs.length (ats.zip p2) k prev) := hseen
        clear hseen
        by_cases hlt : k < M
        ·
          have hk1 : k < ats.length := by omega
          have hk2 : k < p2.length := by omega
          obtain ⟨b, off, rfl, hc⟩ := HA1.out k hk1
          have HN := fun a b => HSE.out.next hk1 hk2 a b
          have HNX : Hid ((prev : Int) ≤ ats[k] → ats[k] ≤ (bs.length : Nat) → Seen bs.length (ats.zip p2) (k + 1) ats[k].toNat) := HN
          clear HN
          generalize ats[k] = A at hc HNX
          by_cases a1 : A < prev
          · have hd1 : decide (A < (prev : Int)) = true := by simpa using a1
            go_wp2
            go_ret
            exact ⟨rfl, Below.refl _ _⟩
          have hd1 : decide (A < (prev : Int)) = false := by simpa using a1
          by_cases a2 : (bs.length : Int) < A
          · have hd2 : decide ((bs.length : Int) < A) = true := by simpa using a2
            go_wp2
            go_ret
            exact ⟨rfl, Below.refl _ _⟩
          have hd2 : decide ((bs.length : Int) < A) = false := by simpa using a2
          go_wp2
          go_round
          case rel => exact ⟨k + 1, A.toNat, by omega, by go_num, by rw [Int.toNat_of_nonneg (by omega)], by omega, HNX.out (by omega) (by omega)⟩
          case measure => simp [intOf]; omega
        · have HPL : Hid (placed bs.length 0 (ats.zip p2)) := HSE.out.all (by have := HM.out; omega)
          clear HSE hpr HA1
          go_wp2_with fail
          refine (cloneBytes_any _ (bcells bs) w HR0.out (bcells_one _) (by rw [bcells_length]; omega)).mono ?_
          rintro e w1 ⟨c0, rfl, ho0, hb1⟩
          rw [bcells_length] at ho0
          obtain ⟨da0, dc0, rfl, _, _⟩ := ownsRow_form ho0
          have HO0 : Hid (w1.ownsRow w.heap.size 5 1 (.slice da0 bs.length dc0) bs.length (bcells bs)) := ho0
          clear ho0
          go_wp2_with fail
          refine (cloneInts_any _ (ats.map (Value.int .i64)) w1 (HR1.out.below hb1) (ints_oneCell _ _) (by rw [List.length_map]; omega)).mono ?_
          rintro e w2 ⟨c1, rfl, ho1, hb2⟩
          rw [List.length_map] at ho1
          obtain ⟨da1, dc1, rfl, _, _⟩ := ownsRow_form ho1
          have HO1 : Hid (w2.ownsRow w1.heap.size 3 1 (.slice da1 ats.length dc1) ats.length (ats.map (Value.int .i64))) := ho1
          clear ho1
          have hb02 : Below w.heap.size w w2 := hb1.trans (hb2.mono hb1.size)
          go_wp2_with fail
          refine (cloneChunks_any _ p2 w2 (HR2.out.keep (Keep.of_below hb02 (fun _ h => h))) (by omega) (fun p hp => by have := tot_mem hp; omega)).mono ?_
          rintro e w3 ⟨c2, q2, rfl, hq2, hr2, hb3⟩
          obtain ⟨da2, dc2, rfl⟩ := hr2.form
          have HQ2 : Hid (q2.map (·.2) = p2.map (·.2)) := hq2
          have HC2 : Hid (RdC (fun k => w2.heap.size ≤ k) w3 (.slice da2 q2.length dc2) q2) := hr2
          clear hq2 hr2
          have hb03 : Below w.heap.size w w3 := hb02.trans (hb3.mono hb02.size)
          go_wp2_with fail
          refine (cloneChunks_any _ p6 w3 (HR6.out.keep (Keep.of_below hb03 (fun _ h => h))) (by omega) (fun p hp => by have := tot_mem hp; omega)).mono ?_
          rintro e w4 ⟨c6, q6, rfl, hq6, hr6, hb4⟩
          obtain ⟨da6, dc6, rfl⟩ := hr6.form
          have HQ6 : Hid (q6.map (·.2) = p6.map (·.2)) := hq6
          have HC6 : Hid (RdC (fun k => w3.heap.size ≤ k) w4 (.slice da6 q6.length dc6) q6) := hr6
          clear hq6 hr6 HR0 HR1 HR2 HR6
          have hb24 : Below w2.heap.size w2 w4 := hb3.trans (hb4.mono hb3.size)
          have hb14 : Below w1.heap.size w1 w4 := hb2.trans (hb24.mono hb2.size)
          have hb04 : Below w.heap.size w w4 := hb1.trans (hb14.mono hb1.size)
          have HBS : Hid (Below w.heap.size w w1 ∧ Below w1.heap.size w1 w2 ∧ Below w2.heap.size w2 w4 ∧ Below w3.heap.size w3 w4 ∧ Below w.heap.size w w4) := ⟨hb1, hb2, hb24, hb4, hb04⟩
          clear hb1 hb2 hb3 hb4 hb24 hb14 hb04 hb02 hb03
          have hn6 : q6.length ≤ 65536 := by rw [len_of_map HQ6.out]; exact hc3
          have ht6 : tot q6 ≤ 1048576 := by rw [tot_congr HQ6.out]; omega
          obtain ⟨i0, hi, hz0, hz1, hz2⟩ := info_parts Try.info5
          go_wp2
          go_loopw [20, 21] (fun v i wr => ∃ m : Nat, m ≤ q6.length ∧ i = .int .i64 m ∧ wr.ownsRow w4.heap.size 5 1 v (join q6 m).length (bcells (join q6 m)) ∧ Below w4.heap.size w4 wr) (fun _ i _ => q6.length - (intOf i).toNat)
          case atStart => exact ⟨0, Nat.zero_le _, rfl, World.ownsRow_nil _ _ _ _, Below.refl _ _⟩
          case round =>
            obtain ⟨m, hm, rfl, hown, hbel⟩ := hrel
            by_cases hlt6 : m < q6.length
            ·
              obtain ⟨xa, xc, ex, _, hat⟩ := (HC6.out.below hbel).at_
              obtain ⟨b, off, ad', cap', e2, _, _, hcl, hrd, _⟩ := hat m hlt6
              simp only [Value.slice.injEq] at ex
              obtain ⟨rfl, _, rfl⟩ := ex
              subst e2
              have HJ : Hid (join q6 (m + 1) = join q6 m ++ q6[m].2) := join_succ q6 m hlt6
              have hjl : (join q6 m).length + q6[m].2.length ≤ 1048576 := by
                rw [join_length, ← tot_take q6 m hlt6]; have := tot_take_le q6 (m + 1); omega
              have hmx : (join q6 m).length + (bcells q6[m].2).length ≤ maxLen := by rw [bcells_length]; unfold maxLen; omega
              have hbx : ((join q6 m).length + (bcells q6[m].2).length) * 1 ≤ 140737488355328 := by rw [bcells_length]; omega
              have hsz : w4.heap.size ≤ wr.heap.size := hbel.size
              clear hat
              go_wp2_with (at_builtin; refine wpList_append_rd _ rfl (.tmp 121) (.tmp 125) 30 rfl w4.heap.size 5 i0 (.int .u8 0) 1 Try.underlying30 hi hz0 hz1 hz2 rfl _ _ _ rfl hown rfl hrd (bcells_one _) hmx hbx hsz ?_; intro v' w5 hown5 hgrow5 hat5)
              have hb5 : Below w4.heap.size w4 w5 := hbel.grown hgrow5 hsz (fun j hj => (ownsRow_lt hown hj).1)
              rw [bcells_length, ← bcells_append, ← List.length_append, ← HJ.out] at hown5
              go_roundw
              case rel => exact ⟨m + 1, by omega, by go_num, hown5, hb5⟩
              case measure => simp [intOf]; omega
            · have hmq : m = q6.length := by omega
              obtain ⟨dw, dcw, hwv, _, _⟩ := ownsRow_form hown
              obtain ⟨wh, hwh⟩ : ∃ wh, wh = join q6 m := ⟨_, rfl⟩
              rw [← hwh] at hown hwv
              subst hwv
              have hwl : wh.length = tot q6 := by rw [hwh, join_length, hmq, tot_all]
              have HWH : Hid (wh = join q6 q6.length) := by rw [hwh, hmq]; rfl
              have HWL : Hid (wh.length = tot q6) := hwl
              have hwb : wh.length ≤ 1048576 := by omega
              have HOW : Hid (wr.ownsRow w4.heap.size 5 1 (.slice dw wh.length dcw) wh.length (bcells wh)) := hown
              clear hwh hown hmq hwl
              obtain ⟨w5, hw5⟩ : ∃ w5, w5 = wr := ⟨_, rfl⟩
              subst hw5
              obtain ⟨b01, b12, b24, b34, b04⟩ := HBS.out
              have b25 : Below w2.heap.size w2 w5 := b24.trans (hbel.mono b24.size)
              have b05 : Below w.heap.size w w5 := b04.trans (hbel.mono b04.size)
              have b35 : Below w3.heap.size w3 w5 := b34.trans (hbel.mono b34.size)
              have b15 : Below w1.heap.size w1 w5 := b12.trans (b25.mono b12.size)
              have r1 : Rd (· < w5.heap.size) w5 (.slice da1 ats.length dc1) (ats.map (Value.int .i64)) := ((Rd.of_own HO1.out).belowAny b25).lt
              have r2 : RdC (fun k => w2.heap.size ≤ k) w5 (.slice da2 q2.length dc2) q2 := by
                have hb3' : RdC (fun k => w2.heap.size ≤ k) w4 (.slice da2 q2.length dc2) q2 := HC2.out.below b34
                exact hb3'.below hbel
              have r0 : Rd (· < w5.heap.size) w5 (.slice da0 bs.length dc0) (bcells bs) := ((Rd.of_own HO0.out).belowAny b15).lt
              have r6 : RdC (· < w5.heap.size) w5 (.slice da6 q6.length dc6) q6 := (HC6.out.below hbel).lt
              have rw5 : Rd (· < w5.heap.size) w5 (.slice dw wh.length dcw) (bcells wh) := (Rd.of_own HOW.out).lt
              have HS5 : Hid (Below w.heap.size w w5 ∧ Below w.heap.size w w1 ∧ Below w1.heap.size w1 w2 ∧ Below w2.heap.size w2 w5 ∧ Rd (· < w5.heap.size) w5 (.slice da0 bs.length dc0) (bcells bs) ∧ Rd (· < w5.heap.size) w5 (.slice da1 ats.length dc1) (ats.map (Value.int .i64)) ∧
                  RdC (fun k => w2.heap.size ≤ k) w5 (.slice da2 q2.length dc2) q2 ∧ RdC (· < w5.heap.size) w5 (.slice da6 q6.length dc6) q6 ∧ Rd (· < w5.heap.size) w5 (.slice dw wh.length dcw) (bcells wh)) := ⟨b05, b01, b12, b25, r0, r1, r2, r6, rw5⟩
              have hn2 : q2.length ≤ 65536 := by rw [len_of_map HQ2.out]; exact hc2
              have ht2 : bs.length + tot q2 + wh.length ≤ 1048576 := by rw [tot_congr HQ2.out, HWL.out, tot_congr HQ6.out]; omega
              have hpl2 : placed bs.length 0 (ats.zip q2) := placed_congr (zip_congr ats HQ2.out.symm) HPL.out
              have HP2 : Hid (placed bs.length 0 (ats.zip q2)) := hpl2
              clear b01 b12 b24 b34 b04 b25 b05 b35 b15 r0 r1 r2 r6 rw5 HOW HC2 HC6 HO1 HBS hbel hpl2 HPL
              go_wp2_with fail
              refine (new_any w5 da0 bs.length dc0 _ _ ats q2 hd fr sz HS5.out.2.2.2.2.2.1 HS5.out.2.2.2.2.2.2.1 (by omega) (by omega)).mono ?_
              rintro e w6 ⟨lv0, x0, rfl, hw6, hl0, hbx0⟩
              have hW0 := WIn.make4 (hd := hd) (fr := fr) (sz := sz) HO0.out HS5.out.2.1 HS5.out.2.2.1 HS5.out.2.2.2.2.2.2.1 HS5.out.2.2.2.1 hl0 hbx0
              have b56 : Below w5.heap.size w5 w6 := by rw [hw6]; exact hbx0.alloc hbx0.size _
              rw [← hw6] at hW0
              generalize x0.heap.size = f0 at hW0 ⊢
              have hzl2 : (ats.zip q2).length ≤ 65536 := by simp; omega
              have hfl2 : (flat bs 0 (ats.zip q2)).length ≤ 1048576 := by
                rw [flat_length (Nat.zero_le _) HP2.out]; have := ltot_zip ats q2; omega
              clear hl0 hbx0 hw6
              have HW0 : Hid _ := hW0.1
              clear hW0
              go_wp2_with fail
              refine (flatten_any HW0.out.wk HW0.out.rd HP2.out (by omega) (by omega) (by omega)).mono ?_
              rintro e w7 ⟨ov0, rfl, hov, b67⟩
              have b57 : Below w5.heap.size w5 w7 := b56.trans (b67.mono b56.size)
              have hS7 : Srcs w7.heap.size w7 (.slice da0 bs.length dc0) (.slice da1 ats.length dc1) (.slice da2 q2.length dc2) (.slice da6 q6.length dc6) (.slice dw wh.length dcw) ov0 bs ats q2 q6 wh (flat bs 0 (ats.zip q2)) := by
                obtain ⟨_, _, _, _, a0, a1, a2, a6, aw⟩ := HS5.out
                exact ⟨(a0.below b57).lt, (a1.below b57).lt, (a2.below b57).lt, (a6.below b57).lt, (aw.below b57).lt, (Rd.of_own hov).lt⟩
              have b07 : Below w.heap.size w w7 := HS5.out.1.trans (b57.mono HS5.out.1.size)
              obtain ⟨dov, dcov, hvov, _, _⟩ := ownsRow_form hov
              have HFL : Hid (bs.length - 0 + ltot (ats.zip q2) = (flat bs 0 (ats.zip q2)).length) := (flat_length (Nat.zero_le _) HP2.out).symm
              obtain ⟨fl, hfl⟩ : ∃ fl, fl = flat bs 0 (ats.zip q2) := ⟨_, rfl⟩
              have HF : Hid (fl = flat bs 0 (ats.zip q2)) := hfl
              rw [← hfl] at hS7 hfl2 hvov
              subst hvov
              have HS7 : Hid _ := hS7
              have HB7 : Hid (Below w.heap.size w w7) := b07
              clear hS7 b07 b57 b56 b67 hov hfl HS5 HO0 HW0
              have hzl : ats.length ≤ 65536 := hc1
              go_wp2_with fail
              refine (cloneBytes_any _ (bcells bs) w7 HS7.out.a (bcells_one _) (by rw [bcells_length]; omega)).mono ?_
              rintro e w8 ⟨ca, rfl, hoa, b1a⟩
              rw [bcells_length] at hoa
              obtain ⟨ya0, yak0, rfl, _, _⟩ := ownsRow_form hoa
              have HOa : Hid (w8.ownsRow w7.heap.size 5 1 (.slice ya0 bs.length yak0) bs.length (bcells bs)) := hoa
              clear hoa
              go_wp2_with fail
              refine (cloneInts_any _ (ats.map (Value.int .i64)) w8 (HS7.out.b.belowAny b1a) (ints_oneCell _ _) (by rw [List.length_map]; omega)).mono ?_
              rintro e w9 ⟨cia, rfl, hia, b2a⟩
              rw [List.length_map] at hia
              obtain ⟨ya1, yak1, rfl, _, _⟩ := ownsRow_form hia
              have HIa : Hid (w9.ownsRow w8.heap.size 3 1 (.slice ya1 ats.length yak1) ats.length (ats.map (Value.int .i64))) := hia
              clear hia
              have b02a : Below w7.heap.size w7 w9 := b1a.trans (b2a.mono b1a.size)
              go_wp2_with fail
              refine (cloneChunks_any _ q2 w9 (HS7.out.c.below b02a) (by omega) (fun p hp => by have := tot_mem hp; omega)).mono ?_
              rintro e w10 ⟨cca, qa, rfl, hqa, hra, b3a⟩
              obtain ⟨ya2, yak2, rfl⟩ := hra.form
              have hna : qa.length ≤ 65536 := by rw [len_of_map hqa]; exact hn2
              have HQa : Hid (qa.map (·.2) = q2.map (·.2)) := hqa
              have HCa : Hid (RdC (fun k => w9.heap.size ≤ k) w10 (.slice ya2 qa.length yak2) qa) := hra
              clear hqa hra
              go_wp2_with fail
              refine (new_any w10 ya0 bs.length yak0 _ _ ats qa hd fr sz ((Rd.of_own HIa.out).belowAny b3a) HCa.out (by omega) (by omega)).mono ?_
              rintro e w11 ⟨lva, xa, rfl, hwa, hla, hba⟩
              have hWa := WIn.make4 (hd := hd) (fr := fr) (sz := sz) HOa.out b1a b2a HCa.out b3a hla hba
              rw [← hwa] at hWa
              generalize xa.heap.size = fa at hWa ⊢
              obtain ⟨hWIa, b4a⟩ := hWa
              have HWa : Hid (WIn w7.heap.size w11 fa (.slice ya0 bs.length yak0) lva bs (ats.zip qa) hd fr sz) := hWIa
              clear hWIa hla hba hwa HCa HOa HIa b1a b2a b3a b02a
              have hS11 := HS7.out.below b4a
              have hS11' : Srcs w11.heap.size w11 (.slice da0 bs.length dc0) (.slice da1 ats.length dc1) (.slice da2 q2.length dc2) (.slice da6 q6.length dc6) (.slice dw wh.length dcw) (.slice dov fl.length dcov) bs ats q2 q6 wh fl :=
                ⟨hS11.a.lt, hS11.b.lt, hS11.c.lt, hS11.d.lt, hS11.e.lt, hS11.f.lt⟩
              have HS11 : Hid _ := hS11'
              clear hS11 hS11'
              go_wp2_with fail
              refine (cloneBytes_any _ (bcells bs) w11 HS11.out.a (bcells_one _) (by rw [bcells_length]; omega)).mono ?_
              rintro e w12 ⟨cb, rfl, hob, b1b⟩
              rw [bcells_length] at hob
              obtain ⟨yb0, ybk0, rfl, _, _⟩ := ownsRow_form hob
              have HOb : Hid (w12.ownsRow w11.heap.size 5 1 (.slice yb0 bs.length ybk0) bs.length (bcells bs)) := hob
              clear hob
              go_wp2_with fail
              refine (cloneInts_any _ (ats.map (Value.int .i64)) w12 (HS11.out.b.belowAny b1b) (ints_oneCell _ _) (by rw [List.length_map]; omega)).mono ?_
              rintro e w13 ⟨cib, rfl, hib, b2b⟩
              rw [List.length_map] at hib
              obtain ⟨yb1, ybk1, rfl, _, _⟩ := ownsRow_form hib
              have HIb : Hid (w13.ownsRow w12.heap.size 3 1 (.slice yb1 ats.length ybk1) ats.length (ats.map (Value.int .i64))) := hib
              clear hib
              have b02b : Below w11.heap.size w11 w13 := b1b.trans (b2b.mono b1b.size)
              go_wp2_with fail
              refine (cloneChunks_any _ q2 w13 (HS11.out.c.below b02b) (by omega) (fun p hp => by have := tot_mem hp; omega)).mono ?_
              rintro e w14 ⟨ccb, qb, rfl, hqb, hrb, b3b⟩
              obtain ⟨yb2, ybk2, rfl⟩ := hrb.form
              have hnb : qb.length ≤ 65536 := by rw [len_of_map hqb]; exact hn2
              have HQb : Hid (qb.map (·.2) = q2.map (·.2)) := hqb
              have HCb : Hid (RdC (fun k => w13.heap.size ≤ k) w14 (.slice yb2 qb.length ybk2) qb) := hrb
              clear hqb hrb
              go_wp2_with fail
              refine (new_any w14 yb0 bs.length ybk0 _ _ ats qb hd fr sz ((Rd.of_own HIb.out).belowAny b3b) HCb.out (by omega) (by omega)).mono ?_
              rintro e w15 ⟨lvb, xb, rfl, hwb, hlb, hbb⟩
              have hWb := WIn.make4 (hd := hd) (fr := fr) (sz := sz) HOb.out b1b b2b HCb.out b3b hlb hbb
              rw [← hwb] at hWb
              generalize xb.heap.size = fb at hWb ⊢
              obtain ⟨hWIb, b4b⟩ := hWb
              have HWb : Hid (WIn w11.heap.size w15 fb (.slice yb0 bs.length ybk0) lvb bs (ats.zip qb) hd fr sz) := hWIb
              clear hWIb hlb hbb hwb HCb HOb HIb b1b b2b b3b b02b
              have HEa : Hid (flat bs 0 (ats.zip qa) = fl) := by rw [HF.out]; exact flat_congr (zip_congr ats HQa.out)
              have HEb : Hid (flat bs 0 (ats.zip qb) = fl) := by rw [HF.out]; exact flat_congr (zip_congr ats HQb.out)
              have HPa : Hid (placed bs.length 0 (ats.zip qa)) := placed_congr (zip_congr ats HQa.out).symm HP2.out
              have HPb : Hid (placed bs.length 0 (ats.zip qb)) := placed_congr (zip_congr ats HQb.out).symm HP2.out
              obtain ⟨R, Q, hst0, hcq, f3, f4, f5, f6⟩ := spl_init HWa.out b4b HWb.out (HS7.out.below b4a) b4a.size HPa.out HEa.out HSZ.out
              have HST : Hid (StrRel R Q w15 fa fl bs.length ats.length hd fr sz q6 0 w15) := hst0
              have HFF : Hid (RdC Q w15 (.slice da6 q6.length dc6) q6 ∧ (∀ k, Q k → R k) ∧ (∀ k, k < w7.heap.size → Q k) ∧ (∀ k, w11.heap.size ≤ k → k < w15.heap.size → R k) ∧ (∀ k, Q k → k < w11.heap.size)) := ⟨hcq, f3, f4, f5, f6⟩
              have hb7_15 : Below w7.heap.size w7 w15 := b4a.trans (b4b.mono b4a.size)
              have HB15 : Hid (Below w.heap.size w w15 ∧ Srcs w7.heap.size w15 _ _ _ _ _ _ bs ats q2 q6 wh fl ∧ w.heap.size ≤ w7.heap.size) := ⟨HB7.out.trans (hb7_15.mono HB7.out.size), HS7.out.below hb7_15, HB7.out.size⟩
              clear hst0 hcq f3 f4 f5 f6 b4a b4b HWa HS7 HS11 HQa HQb HF HP2 HPa HEa HB7 HFL hb7_15 HQ2
              go_wp2
              go_loopw [27] (fun i wr => ∃ m2 : Nat, m2 ≤ q6.length ∧ i = .int .i64 m2 ∧ StrRel R Q w15 fa fl bs.length ats.length hd fr sz q6 m2 wr) (fun i _ => q6.length - (intOf i).toNat)
              case atStart => exact ⟨0, Nat.zero_le _, rfl, HST.out⟩
              case round =>
                obtain ⟨m2, hm2, rfl, hsr⟩ := hrel
                by_cases hlt2 : m2 < q6.length
                ·
                  obtain ⟨bv, lv, bsk, lsk, hWk, hQk, hplk, hflk, hl1, hl2, hKk⟩ := hsr
                  obtain ⟨hcq, f3, f4, f5, f6⟩ := HFF.out
                  have hts := tot_take q6 m2 hlt2
                  have htl := tot_take_le q6 (m2 + 1)
                  have hcr := hcq.keep (hKk.mono f3)
                  obtain ⟨xa, xc, ex, _, hat⟩ := hcr.at_
                  obtain ⟨b, off, ad', cap', e2, _, _, hcl, hrd, _⟩ := hat m2 hlt2
                  simp only [Value.slice.injEq] at ex
                  obtain ⟨rfl, _, rfl⟩ := ex
                  subst e2
                  have hxl : bsk.length ≤ 1099511627776 := by omega
                  have hll : lsk.length ≤ 1099511627776 := by omega
                  have hql : q6[m2].2.length ≤ 1099511627776 := by omega
                  have HS : Hid (∀ (w' : World) (bv' lv' : Value), Wr R w' fa bv' lv' (appBs bsk q6[m2].2) (appLs bsk lsk (.slice ad' q6[m2].2.length cap') q6[m2].2) hd fr (wrap64 (wrap64 (sz + tot (q6.take m2)) + q6[m2].2.length)) → Keep R wr w' → StrRel R Q w15 fa fl bs.length ats.length hd fr sz q6 (m2 + 1) w') :=
                    fun w' bv' lv' a b => str_step hlt2 f3 hQk hrd hplk hflk hl1 hl2 hKk a b
                  have hrd' := hrd.mono (R' := R) (fun k a _ => f3 k a)
                  clear hcr hat f3 f4 f5 f6 hcq hQk hplk hflk hl1 hl2 hKk hts htl hrd
                  go_wp2_with fail
                  refine (stretch_any hWk hrd' hql hxl hll).mono ?_
                  rintro e w6' ⟨bv', lv', rfl, hW6, hK6⟩
                  have HB : Hid _ := HS.out w6' bv' lv' hW6 hK6
                  clear hcl hW6 hK6 hWk hrd' HS
                  go_wp2
                  go_roundw
                  case rel => exact ⟨m2 + 1, by omega, by go_num, HB.out⟩
                  case measure => simp [intOf]; omega
                · have hmq2 : m2 = q6.length := by omega
                  obtain ⟨w16, hw16⟩ : ∃ w16, w16 = wr := ⟨_, rfl⟩
                  subst hw16
                  rw [hmq2] at hsr
                  obtain ⟨bva, lva', bsa, lsa, hWa, hQa, hpla, hfla, hla1, hla2, hKa⟩ := hsr
                  obtain ⟨hcq, f3, f4, f5, f6⟩ := HFF.out
                  obtain ⟨b015, hS15, hN7⟩ := HB15.out
                  have hS16 := hS15.keep hKa (fun k hk => f3 k (f4 k hk))
                  have hfla' : flat bsa 0 lsa = fl ++ wh := by rw [hfla, HWH.out]
                  have hwz : wrap64 (sz + tot (q6.take q6.length)) = wrap64 (sz + wh.length) := by rw [tot_all, HWL.out]
                  rw [hwz] at hWa
                  have HWA : Hid (Wr R w16 fa bva lva' bsa lsa hd fr (wrap64 (sz + wh.length)) ∧ (∀ p ∈ lsa, Rd Q w16 p.2.1 (bcells p.2.2)) ∧ Keep R w15 w16 ∧ placed bsa.length 0 lsa ∧ flat bsa 0 lsa = fl ++ wh) := ⟨hWa, hQa, hKa, hpla, hfla'⟩
                  have hb16 : Below w.heap.size w w16 := b015.trans (hKa.below (fun k hk => f3 k (f4 k (by omega))))
                  have hsa1 : bsa.length ≤ 2097152 := by rw [tot_all] at hla1; omega
                  have hsa2 : lsa.length ≤ 131072 := by omega
                  have HS16 : Hid (Rd (· < w7.heap.size) w16 (.slice dw wh.length dcw) (bcells wh)) := hS16.e
                  clear hWa hQa hKa hpla hfla hfla' hla1 hla2 hcq f3 f4 f5 f6 b015 hS15 hN7 hS16 hwz hmq2
                  go_wp2_with fail
                  refine (cloneBytes_any _ (bcells wh) w16 HS16.out (bcells_one _) (by rw [bcells_length]; omega)).mono ?_
                  rintro e w17 ⟨cw, rfl, hcw, b1617⟩
                  rw [bcells_length] at hcw
                  obtain ⟨dcw0, dcw1, rfl, _, _⟩ := ownsRow_form hcw
                  obtain ⟨Rb, m1, m2', m3, m4, m5, m6, m7, m8, m9⟩ := spl_mid HWA.out.1 HWA.out.2.1 HWA.out.2.2.1 HWb.out HB15.out.2.1 HFF.out.2.1 HFF.out.2.2.1 HFF.out.2.2.2.1 HFF.out.2.2.2.2 hcw b1617
                  have hb17 : Below w.heap.size w w17 := hb16.trans (b1617.mono hb16.size)
                  clear hcw b1617 hb16 HS16
                  have hzb : (ats.zip qb).length ≤ 1099511627776 := by simp; omega
                  go_wp2_with fail
                  refine (stretch_any m1 m2' (by omega) (by omega) hzb).mono ?_
                  rintro e w18 ⟨vb', lvb', rfl, hWb18, hK18⟩
                  obtain ⟨p1, p2', p3, p4⟩ := app_flat (.slice dcw0 wh.length dcw1) wh HPb.out
                  rw [HEb.out] at p2'
                  have hA18 := m4.keep hK18 m5 m6 m7
                  have hAr18 : ∀ p ∈ lsa, Rd Rb w18 p.2.1 (bcells p.2.2) := fun p hp => (m8 p hp).keep hK18
                  have hS18 := m9.keep hK18 m3
                  have hb18 : Below w.heap.size w w18 := hb17.trans (hK18.below (fun k hk => m3 k (by have := HB15.out.2.2; omega)))
                  generalize appBs bs wh = bsb at hWb18 p1 p2' p3
                  generalize appLs bs (ats.zip qb) (.slice dcw0 wh.length dcw1) wh = lsb at hWb18 p1 p2' p4
                  have hlb : bsb.length ≤ 2097152 := by omega
                  have hlb2 : lsb.length ≤ 131072 := by simp at p4; omega
                  have H18 : Hid (Wk w18 fa bva lva' bsa lsa hd fr (wrap64 (sz + wh.length)) ∧ (∀ p ∈ lsa, Rd Rb w18 p.2.1 (bcells p.2.2)) ∧ placed bsa.length 0 lsa ∧ flat bsa 0 lsa = fl ++ wh ∧
                      Wk w18 fb vb' lvb' bsb lsb hd fr (wrap64 (sz + wh.length)) ∧ (∀ p ∈ lsb, Rd Rb w18 p.2.1 (bcells p.2.2)) ∧ placed bsb.length 0 lsb ∧ flat bsb 0 lsb = fl ++ wh) := ⟨hA18, hAr18, HWA.out.2.2.2.1, HWA.out.2.2.2.2, hWb18.wk, hWb18.rd, p1, p2'⟩
                  have HS18 : Hid (Rd (· < w7.heap.size) w18 (.slice dw wh.length dcw) (bcells wh) ∧ Rd (· < w7.heap.size) w18 (.slice dov fl.length dcov) (bcells fl)) := ⟨hS18.e, hS18.f⟩
                  clear m1 m2' m3 m4 m5 m6 m7 m8 m9 hWb18 hK18 p1 p2' p3 p4 hA18 hAr18 hS18 hb17 HWA HWb HB15 HFF HPb HEb
                  have hmx1 : 0 + (bcells fl).length ≤ maxLen := by rw [bcells_length]; unfold maxLen; omega
                  have hbx1 : (0 + (bcells fl).length) * 1 ≤ 140737488355328 := by rw [bcells_length]; omega
                  have hmx2 : 0 + (bcells fl).length + (bcells wh).length ≤ maxLen := by rw [bcells_length, bcells_length]; unfold maxLen; omega
                  have hbx2 : (0 + (bcells fl).length + (bcells wh).length) * 1 ≤ 140737488355328 := by rw [bcells_length, bcells_length]; omega
                  have hfw : (fl ++ wh).length ≤ 2097152 := by simp; omega
                  go_wp2_with (first | (at_builtin; refine wpList_append_rd _ rfl (.tmp 177) (.tmp 178) 30 rfl w18.heap.size 5 i0 (.int .u8 0) 1 Try.underlying30 hi hz0 hz1 hz2 rfl _ 0 [] rfl (World.ownsRow_nil w18 _ _ _) rfl HS18.out.2 (bcells_one _) hmx1 hbx1 (Nat.le_refl _) ?_; intro v19 w19 hown19 hgrow19 hat19) | (at_builtin; refine wpList_append_rd _ rfl (.tmp 180) (.tmp 181) 30 rfl w18.heap.size 5 i0 (.int .u8 0) 1 Try.underlying30 hi hz0 hz1 hz2 rfl _ _ _ rfl hown19 rfl (HS18.out.1.belowAny (bel_of_nil hgrow19)) (bcells_one _) hmx2 hbx2 hgrow19.size ?_; intro v20 w20 hown20 hgrow20 hat20))
                  have b1820 : Below w18.heap.size w18 w20 := (bel_of_nil hgrow19).grown hgrow20 hgrow19.size (fun j hj => (ownsRow_lt hown19 hj).1)
                  have hwant : Rd (fun _ => True) w20 v20 (bcells (fl ++ wh)) := by
                    have := Rd.of_own hown20
                    rw [List.nil_append, ← bcells_append] at this
                    exact this.mono (fun _ _ _ => trivial)
                  obtain ⟨t1, t2, t3, t4, t5, t6, t7, t8⟩ := H18.out
                  have hA20 := t1.below b1820
                  have hB20 := t5.below b1820
                  have hBr20 : ∀ p ∈ lsb, Rd Rb w20 p.2.1 (bcells p.2.2) := fun p hp => (t6 p hp).belowAny b1820
                  have hb20 : Below w.heap.size w w20 := hb18.trans (b1820.mono hb18.size)
                  have HB20 : Hid (Wk w20 fb vb' lvb' bsb lsb hd fr (wrap64 (sz + wh.length)) ∧ (∀ p ∈ lsb, Rd Rb w20 p.2.1 (bcells p.2.2)) ∧ placed bsb.length 0 lsb ∧ flat bsb 0 lsb = fl ++ wh ∧ Rd (fun _ => True) w20 v20 (bcells (fl ++ wh)) ∧ Below w.heap.size w w20) := ⟨hB20, hBr20, t7, t8, hwant, hb20⟩
                  have hfa : (flat bsa 0 lsa).length ≤ 1099511627776 := by rw [t4]; omega
                  have hc := flatten_any hA20 (fun p hp => (t2 p hp).belowAny b1820) t3 (by omega) (by omega) hfa
                  rw [t4] at hc
                  have HWA20 : Hid (Wk w20 fa bva lva' bsa lsa hd fr (wrap64 (sz + wh.length))) := hA20
                  clear hown19 hgrow19 hat19 hown20 hgrow20 hat20 b1820 hwant t1 t2 t3 t4 t5 t6 t7 t8 hA20 hB20 hBr20 hb20 hb18 hmx1 hbx1 hmx2 hbx2 H18 HS18 hfa
                  refine hc.mono ?_
                  clear hc
                  rintro e w21 ⟨sa, rfl, hsa, b2021⟩
                  go_wp2_with fail
                  have hBw := HB20.out.1.below b2021
                  have hfb : (flat bsb 0 lsb).length ≤ 1099511627776 := by rw [HB20.out.2.2.2.1]; omega
                  have hc := flatten_any hBw (fun p hp => (HB20.out.2.1 p hp).belowAny b2021) HB20.out.2.2.1 (by omega) (by omega) hfb
                  rw [HB20.out.2.2.2.1] at hc
                  refine hc.mono ?_
                  clear hc
                  rintro e w22 ⟨sb, rfl, hsb, b2122⟩
                  have b2022 : Below w20.heap.size w20 w22 := b2021.trans (b2122.mono b2021.size)
                  have HE : Hid (Rd (fun _ => True) w22 sa (bcells (fl ++ wh)) ∧ Rd (fun _ => True) w22 v20 (bcells (fl ++ wh)) ∧ Rd (fun _ => True) w22 sb (bcells (fl ++ wh)) ∧ Wk w22 fa bva lva' bsa lsa hd fr (wrap64 (sz + wh.length)) ∧ Wk w22 fb vb' lvb' bsb lsb hd fr (wrap64 (sz + wh.length)) ∧ Below w.heap.size w w22) :=
                    ⟨((Rd.of_own hsa).mono (fun _ _ _ => trivial)).belowAny b2122, HB20.out.2.2.2.2.1.belowAny b2022, (Rd.of_own hsb).mono (fun _ _ _ => trivial), HWA20.out.below b2022, HB20.out.1.below b2022, HB20.out.2.2.2.2.2.trans (b2022.mono HB20.out.2.2.2.2.2.size)⟩
                  clear hsa hsb b2021 b2122 b2022 hBw hfb HB20 HWA20
                  go_wp2_with fail
                  refine (equal_any HE.out.1 HE.out.2.1 (by omega)).mono ?_
                  rintro e w23 ⟨rfl, n23, hw23⟩
                  have b23 := bel_drewN hw23
                  clear hw23
                  go_wp2_with fail
                  refine (equal_any (HE.out.2.2.1.belowAny b23) (HE.out.2.1.belowAny b23) (by omega)).mono ?_
                  rintro e w24 ⟨rfl, n24, hw24⟩
                  have b24' := b23.trans ((bel_drewN hw24).mono b23.size)
                  have hA24 := HE.out.2.2.2.1.below b24'
                  have hB24 := HE.out.2.2.2.2.1.below b24'
                  have hb24 := HE.out.2.2.2.2.2.trans (b24'.mono HE.out.2.2.2.2.2.size)
                  clear hw24 b23 b24' HE
                  go_wp2_with fail
                  refine (size_any hA24).mono ?_
                  rintro e w25 ⟨rfl, hw⟩
                  obtain rfl : w24 = w25 := hw.symm
                  clear hw
                  go_wp2_with fail
                  refine (size_any hB24).mono ?_
                  rintro e w25 ⟨rfl, hw⟩
                  obtain rfl : w24 = w25 := hw.symm
                  clear hw
                  go_wp2_with fail
                  refine (head_any hA24).mono ?_
                  rintro e w25 ⟨rfl, hw⟩
                  obtain rfl : w24 = w25 := hw.symm
                  clear hw
                  go_wp2_with fail
                  refine (head_any hB24).mono ?_
                  rintro e w25 ⟨rfl, hw⟩
                  obtain rfl : w24 = w25 := hw.symm
                  clear hw
                  go_wp2_with fail
                  refine (frame_any hA24).mono ?_
                  rintro e w25 ⟨rfl, hw⟩
                  obtain rfl : w24 = w25 := hw.symm
                  clear hw
                  go_wp2_with fail
                  refine (frame_any hB24).mono ?_
                  rintro e w25 ⟨rfl, hw⟩
                  obtain rfl : w24 = w25 := hw.symm
                  clear hw
                  go_wp2
                  go_ret
                  exact ⟨rfl, hb24⟩
end Go.Proofs.Qxb6600175a
