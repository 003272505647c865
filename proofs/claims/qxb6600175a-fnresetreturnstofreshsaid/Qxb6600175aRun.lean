/-
  zzRun (28): the script's plain state; the walk.
-/
import Derived.Test.Qxb6600175aLater
import Derived.Deep.CutRange
import Derived.Deep.LoopGhost
namespace Go.Proofs.Qxb6600175a
open Go.RowKit
set_option linter.unusedVariables false

/-- what a script leaves, by bytes alone: buf, the longs (where, what), the size, where the last header stands -/
structure Sc where
  bs : List Int
  L : List (Int × List Int)
  sz : Int
  hb : Option Int
def Sc.beg (s : Sc) : Sc := ⟨s.bs ++ [0, 0, 0, 0], s.L, wrap64 (s.sz + 4), some s.bs.length⟩
def Sc.app (s : Sc) (x : List Int) : Sc := ⟨appBs s.bs x, if x.length < 512 then s.L else s.L ++ [((s.bs.length : Int), x)], wrap64 (s.sz + x.length), s.hb⟩
def Sc.mid (s : Sc) (b : Bool) : Sc := if b then s.beg else s
/-- k steps of the script over the byte strings xs -/
def scAt (xs : List (List Int)) (bg : List Bool) : Nat → Sc
  | 0 => ⟨[], [], 0, none⟩
  | k + 1 => ((scAt xs bg k).mid (isBeg bg k)).app (xs.getD k [])
theorem scAt_succ {q : List (Value × List Int)} {bg : List Bool} {k : Nat} (h : k < q.length) : scAt (q.map (·.2)) bg (k + 1) = ((scAt (q.map (·.2)) bg k).mid (isBeg bg k)).app q[k].2 := by
  simp [scAt, h]

/-- the writer holds what the script says -/
def Holds (R Q : Nat → Prop) (U : World) (f : Nat) (hd0 fr0 : Int) (s : Sc) (n m t : Nat) (wr : World) : Prop :=
  ∃ bv lv ls, Wr R wr f bv lv s.bs ls (s.hb.getD hd0) (if s.hb.isSome then 0 else fr0) s.sz ∧ ls.map (fun p => (p.1, p.2.2)) = s.L ∧ (∀ p ∈ ls, Rd Q wr p.2.1 (bcells p.2.2)) ∧ placed s.bs.length 0 ls ∧ s.bs.length ≤ n ∧ ls.length ≤ m ∧ ltot ls ≤ t ∧ Keep R U wr

section
variable {R Q : Nat → Prop} {U : World} {f : Nat} {hd0 fr0 : Int} {s : Sc} {n m t : Nat} {wr : World}
theorem Holds.beg (hQ : ∀ j, Q j → R j) {bv lv bv' : Value} {ls : List (Int × Value × List Int)} (h2 : ls.map (fun p => (p.1, p.2.2)) = s.L) (h3 : ∀ p ∈ ls, Rd Q wr p.2.1 (bcells p.2.2)) (h4 : placed s.bs.length 0 ls) (h5 : s.bs.length ≤ n) (h6 : ls.length ≤ m) (h7 : ltot ls ≤ t) (hK : Keep R U wr)
    {w' : World} (hW : Wr R w' f bv' lv (s.bs ++ [0, 0, 0, 0]) ls s.bs.length 0 (wrap64 (s.sz + 4))) (hK' : Keep R wr w') : Holds R Q U f hd0 fr0 s.beg (n + 4) m t w' := by
  refine ⟨bv', lv, ls, ?_, h2, fun p hp => (h3 p hp).keep (hK'.mono hQ), placed_mono (by simp [Sc.beg]) h4, by simp [Sc.beg]; omega, h6, h7, hK.trans hK'⟩
  exact hW
theorem Holds.app (hQ : ∀ j, Q j → R j) {bv lv bv' lv' pv : Value} {x : List Int} {ls : List (Int × Value × List Int)} (h2 : ls.map (fun p => (p.1, p.2.2)) = s.L) (h3 : ∀ p ∈ ls, Rd Q wr p.2.1 (bcells p.2.2)) (hpv : Rd Q wr pv (bcells x)) (h4 : placed s.bs.length 0 ls) (h5 : s.bs.length ≤ n) (h6 : ls.length ≤ m) (h7 : ltot ls ≤ t) (hK : Keep R U wr)
    {w' : World} (hW : Wr R w' f bv' lv' (appBs s.bs x) (appLs s.bs ls pv x) (s.hb.getD hd0) (if s.hb.isSome then 0 else fr0) (wrap64 (s.sz + x.length))) (hK' : Keep R wr w') : Holds R Q U f hd0 fr0 (s.app x) (n + x.length) (m + 1) (t + x.length) w' := by
  obtain ⟨a1, a2, a3, a4⟩ := app_flat pv x h4
  refine ⟨bv', lv', _, hW, ?_, ?_, a1, ?_, by omega, ?_, hK.trans hK'⟩
  · unfold appLs Sc.app
    split
    · exact h2
    · simp [h2]
  · intro p hp
    have hkq := hK'.mono hQ
    unfold appLs at hp
    split at hp
    · exact (h3 p hp).keep hkq
    · rcases List.mem_append.1 hp with hp | hp
      · exact (h3 p hp).keep hkq
      · simp at hp; subst hp; exact hpv.keep hkq
  · show (appBs s.bs x).length ≤ _; omega
  · have e : ∀ (l : List (Int × Value × List Int)) (p : Int × Value × List Int), ltot (l ++ [p]) = ltot l + p.2.2.length := by
      intro l p
      induction l with
      | nil => simp [ltot]
      | cons a l ih => simp only [List.cons_append, ltot]; rw [ih]; omega
    unfold appLs
    split
    · omega
    · rw [e]; show ltot ls + x.length ≤ t + x.length; omega
end

/-- what zzRun leaves -/
def RunPost (R Q : Nat → Prop) (U : World) (f : Nat) (hd0 fr0 : Int) (s : Sc) (n m t : Nat) (e : Ending) (w' : World) : Prop := e = .returned (.bool s.hb.isSome) ∧ Holds R Q U f hd0 fr0 s n m t w'

set_option maxHeartbeats 4000000 in
set_option maxRecDepth 100000 in
theorem run_any {R Q : Nat → Prop} {w : World} {f : Nat} {bv lv v1 v2 : Value} {hd fr : Int} {q : List (Value × List Int)} {bg : List Bool} (h : Wr R w f bv lv [] [] hd fr 0) (hC : RdC Q w v1 q) (hB : Rd R w v2 (bg.map Value.bool)) (hQ : ∀ j, Q j → R j)
    (hn : q.length ≤ 65536) (ht : tot q ≤ 1048576) (hbg : bg.length ≤ 1048576) :
    Calls Try.prog 28 #[.pointer (some ⟨f, 0, none⟩), v1, v2] w (RunPost R Q w f hd fr (scAt (q.map (·.2)) bg q.length) (4 * q.length + tot q) q.length (tot q)) := by
  obtain ⟨ad1, cap1, e1⟩ := hC.form
  obtain ⟨ad2, cap2, e2, _⟩ := hB.formBool
  subst e1 e2
  have HC : Hid (RdC Q w (.slice ad1 q.length cap1) q) := hC
  have HB : Hid (Rd R w (.slice ad2 bg.length cap2) (bg.map Value.bool)) := hB
  have HQ : Hid (∀ j, Q j → R j) := hQ
  have HS0 : Hid (Holds R Q w f hd fr (scAt (q.map (·.2)) bg 0) (4 * 0 + tot (q.take 0)) 0 (tot (q.take 0)) w) :=
    ⟨bv, lv, [], h, rfl, by simp, trivial, by simp [scAt], by simp, by simp [ltot], Keep.refl _ _⟩
  clear hC hB hQ h
  go_enter Try.func28, Try.ntmps28
  go_wp2
  go_loopg [7, 8] q.length (fun g b i wr => ∃ k : Nat, k ≤ q.length ∧ q.length ≤ g + k ∧ i = .int .i64 k ∧ b = .bool (scAt (q.map (·.2)) bg k).hb.isSome ∧ Holds R Q w f hd fr (scAt (q.map (·.2)) bg k) (4 * k + tot (q.take k)) k (tot (q.take k)) wr)
  case atStart => exact ⟨0, Nat.zero_le _, by omega, rfl, rfl, HS0.out⟩
  case round =>
    obtain ⟨k, hk, hgk, rfl, rfl, hinv⟩ := hrel
    by_cases hlt : k < q.length
    · have HSU : Hid (scAt (q.map (·.2)) bg (k + 1) = ((scAt (q.map (·.2)) bg k).mid (isBeg bg k)).app q[k].2) := scAt_succ hlt
      generalize scAt (q.map (·.2)) bg k = s at hinv HSU ⊢
      obtain ⟨bv, lv, ls, hW, h2, h3, h4, h5, h6, h7, hK⟩ := hinv
      have hts := tot_take q k hlt
      have htk := tot_take_le q (k + 1)
      have HI : Hid (Wr R wr f bv lv s.bs ls (s.hb.getD hd) (if s.hb.isSome then 0 else fr) s.sz ∧ ls.map (fun p => (p.1, p.2.2)) = s.L ∧ (∀ p ∈ ls, Rd Q wr p.2.1 (bcells p.2.2)) ∧ placed s.bs.length 0 ls ∧ s.bs.length ≤ 4 * k + tot (q.take k) ∧ ls.length ≤ k ∧ ltot ls ≤ tot (q.take k) ∧ Keep R w wr) := ⟨hW, h2, h3, h4, h5, h6, h7, hK⟩
      have HTS : Hid (tot (q.take (k + 1)) = tot (q.take k) + q[k].2.length) := hts
      have hbl : s.bs.length ≤ 2097152 := by omega
      clear hW h2 h3 h4 h5 h6 h7 hK hts
      go_upto_region 5 with (fail)
      go_cut [24] from 9 to 32 (fun s24 wx => s24 = .bool (isBeg bg k) ∧ wx = wr)
      case first =>
        by_cases hkb : k < bg.length
        · obtain ⟨b, off, rfl, _, hc⟩ := (HB.out.keep HI.out.2.2.2.2.2.2.2).boolAt hkb
          have HE : Hid (isBeg bg k = bg[k]) := isBeg_in hkb
          generalize bg[k] = B at hc HE
          go_wp2
          go_meet
          case rel => exact ⟨by rw [HE.out], rfl⟩
        · have HE : Hid (isBeg bg k = false) := isBeg_out hkb
          have hdd : decide ((k : Int) < (bg.length : Int)) = false := by simp; omega
          go_wp2
          go_meet
          case rel => exact ⟨by rw [HE.out], rfl⟩
      case rest =>
        obtain ⟨rfl, hwx⟩ := hcut
        obtain rfl : wr = wc := hwx.symm
        clear hwx
        go_upto_if 24 with (fail)
        go_cut [7] from 9 to 32 (fun s7 wx => s7 = .bool (s.mid (isBeg bg k)).hb.isSome ∧ Holds R Q w f hd fr (s.mid (isBeg bg k)) (4 * (k + 1) + tot (q.take k)) k (tot (q.take k)) wx)
        case first =>
          cases hbeg : isBeg bg k with
          | false =>
            go_wp2
            go_meet
            case rel =>
              obtain ⟨a1, a2, a3, a4, a5, a6, a7, a8⟩ := HI.out
              have e : s.mid (isBeg bg k) = s := by rw [hbeg]; rfl
              rw [e]
              exact ⟨rfl, bv, lv, ls, a1, a2, a3, a4, by omega, a6, a7, a8⟩
          | true =>
            go_wp2_with fail
            refine (begin_any HI.out.1 (by omega)).mono ?_
            rintro e w5 ⟨bv5, rfl, hW5, hK5⟩
            have HE : Hid _ := Holds.beg (hd0 := hd) (fr0 := fr) (bv := bv) HQ.out HI.out.2.1 HI.out.2.2.1 HI.out.2.2.2.1 HI.out.2.2.2.2.1 HI.out.2.2.2.2.2.1 HI.out.2.2.2.2.2.2.1 HI.out.2.2.2.2.2.2.2 hW5 hK5
            clear hW5 hK5
            go_wp2
            go_meet
            case rel =>
              have e : s.mid (isBeg bg k) = s.beg := by rw [hbeg]; rfl
              rw [e]
              refine ⟨rfl, ?_⟩
              have := HE.out
              rw [show 4 * k + tot (q.take k) + 4 = 4 * (k + 1) + tot (q.take k) from by omega] at this
              exact this
        case rest =>
          clear HI hbl
          generalize s.mid (isBeg bg k) = s1 at hcut HSU ⊢
          obtain ⟨rfl, bv1, lv1, ls1, hW, h2, h3, h4, h5, h6, h7, hK⟩ := hcut
          obtain ⟨xa, xc, ex, _, hat⟩ := (HC.out.keep (hK.mono HQ.out)).at_
          obtain ⟨b, off, ad', cap', e2, hRb, e3, hcl, hrd, _⟩ := hat k hlt
          simp only [Value.slice.injEq] at ex
          obtain ⟨rfl, _, rfl⟩ := ex
          subst e2
          have hts := HTS.out
          have hxl : s1.bs.length ≤ 1099511627776 := by omega
          have hll : ls1.length ≤ 1099511627776 := by omega
          have hql : q[k].2.length ≤ 1099511627776 := by omega
          have HST : Hid (∀ w' bv' lv', Wr R w' f bv' lv' (appBs s1.bs q[k].2) (appLs s1.bs ls1 (.slice ad' q[k].2.length cap') q[k].2) (s1.hb.getD hd) (if s1.hb.isSome then 0 else fr) (wrap64 (s1.sz + q[k].2.length)) → Keep R wc w' → Holds R Q w f hd fr (s1.app q[k].2) (4 * (k + 1) + tot (q.take k) + q[k].2.length) (k + 1) (tot (q.take k) + q[k].2.length) w') :=
            fun w' bv' lv' a b => Holds.app (bv := bv1) (lv := lv1) HQ.out h2 h3 hrd h4 h5 h6 h7 hK a b
          have hrd' := hrd.mono (R' := R) (fun k a _ => HQ.out k a)
          clear h2 h3 h4 h5 h6 h7 hK hat hrd hts e3
          go_wp2_with fail
          refine (stretch_any hW hrd' hql hxl hll).mono ?_
          rintro e w6 ⟨bv', lv', rfl, hW6, hK6⟩
          have HE : Hid _ := HST.out w6 bv' lv' hW6 hK6
          clear hcl hW6 hK6 hW hrd' HST
          go_wp2
          go_roundg (q.length - (k + 1))
          case measure => omega
          case rel =>
            refine ⟨k + 1, by omega, by omega, by go_num, ?_, ?_⟩
            · rw [HSU.out]; rfl
            · have := HE.out
              rw [HSU.out, HTS.out]
              rw [show 4 * (k + 1) + tot (q.take k) + q[k].2.length = 4 * (k + 1) + (tot (q.take k) + q[k].2.length) from by omega] at this
              exact this
    · have hkq : k = q.length := by omega
      have HK : Hid (k = q.length) := hkq
      have HE : Hid (Holds R Q w f hd fr (scAt (q.map (·.2)) bg k) (4 * k + tot (q.take k)) k (tot (q.take k)) wr) := hinv
      clear hinv hkq
      go_wp2
      go_ret
      have h := HE.out
      rw [HK.out, tot_all] at h
      refine ⟨?_, h⟩
      show Ending.returned (Value.bool (scAt (q.map (·.2)) bg k).hb.isSome) = _
      rw [HK.out]
end Go.Proofs.Qxb6600175a
