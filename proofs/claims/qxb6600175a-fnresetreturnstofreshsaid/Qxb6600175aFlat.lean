/-
  zzFlatten (14): the stream, as a plain function; the walk.
-/
import Derived.Test.Qxb6600175aBegLaw
namespace Go.Proofs.Qxb6600175a
open Go.RowKit
set_option linter.unusedVariables false

/-- the stream from buf's place prev on -/
def flat (bs : List Int) : Nat → List (Int × Value × List Int) → List Int
  | prev, [] => bs.drop prev
  | prev, p :: ps => (bs.take p.1.toNat).drop prev ++ (p.2.2 ++ flat bs p.1.toNat ps)
/-- the longs stand in order within a buf of n bytes -/
def placed (n : Nat) : Nat → List (Int × Value × List Int) → Prop
  | _, [] => True
  | prev, p :: ps => (prev : Int) ≤ p.1 ∧ p.1 ≤ n ∧ placed n p.1.toNat ps

/-- a cut of an owned row -/
theorem Rd.cut {w : World} {base e : Nat} {ad : Option Addr} {n cap l h : Nat} {cs : List Value} (hown : w.ownsRow base e 1 (.slice ad n cap) n cs) (h1 : l ≤ h) (h2 : h ≤ n) :
    Rd (fun _ => True) w (.slice (if cap = l then ad else ad.map (·.add l)) (h - l) (cap - l)) ((cs.take h).drop l) := by
  have hl : cs.length = n := by simpa using hown.1
  have hlen : ((cs.take h).drop l).length = h - l := by simp; omega
  rcases hown.2 with ⟨ev, en⟩ | ⟨g, cp, cur, ev, _, hg, hc, hm, _⟩
  · simp at ev
    obtain ⟨rfl, rfl, rfl⟩ := ev
    obtain rfl : l = 0 := by omega
    obtain rfl : h = 0 := by omega
    exact ⟨none, 0, by simp, by simp, by simp [maxLen], fun _ => rfl, by simp⟩
  · simp at ev
    obtain ⟨rfl, rfl⟩ := ev
    refine ⟨_, cap - l, by rw [hlen], by omega, by omega, ?_, fun hne => ?_⟩
    · intro hn
      split at hn <;> simp at hn
    · have hlt : l < h := by
        rcases Nat.lt_or_ge l h with x | x
        · exact x
        · exfalso; apply hne; apply List.eq_nil_of_length_eq_zero; omega
      rw [if_neg (by omega)]
      refine ⟨g, l, by simp [Addr.add_lit], trivial, fun i u hu => ?_⟩
      have hi : i < h - l := by have := (List.getElem?_eq_some_iff.1 hu).1; omega
      rw [hown.cellAt _ (by omega)]
      rw [List.getElem?_drop, List.getElem?_take] at hu
      rw [if_pos (by omega)] at hu
      exact hu

theorem bcells_cut (bs : List Int) (l h : Nat) : ((bcells bs).take h).drop l = bcells ((bs.take h).drop l) := by simp [bcells, List.map_take, List.map_drop]

def FlatPost (w : World) (fl : List Int) (e : Ending) (w' : World) : Prop :=
  ∃ ov, e = .returned (.tuple #[ov, .bool true]) ∧ w'.ownsRow w.heap.size 5 1 ov fl.length (bcells fl) ∧ Below w.heap.size w w'

set_option maxHeartbeats 2000000 in
theorem flatten_any {R : Nat → Prop} {w : World} {f : Nat} {bv lv : Value} {bs : List Int} {ls : List (Int × Value × List Int)} {hd fr sz : Int} (h : Wk w f bv lv bs ls hd fr sz) (hrd : ∀ p ∈ ls, Rd R w p.2.1 (bcells p.2.2))
    (hpl : placed bs.length 0 ls) (hll : ls.length ≤ 1099511627776) (hbl : bs.length ≤ 1099511627776) (hfl : (flat bs 0 ls).length ≤ 1099511627776) :
    Calls Try.prog 14 #[.pointer (some ⟨f, 0, none⟩)] w (FlatPost w (flat bs 0 ls)) := by
  obtain ⟨ad, cap, e1, hnc, hcm⟩ := ownsRow_form h.buf
  subst e1
  unfold maxLen at hcm
  obtain ⟨i0, hi, hz0, hz1, hz2⟩ := info_parts Try.info5
  have HP : Hid (placed bs.length 0 ls) := hpl
  have HRD : Hid (∀ p ∈ ls, Rd R w p.2.1 (bcells p.2.2)) := hrd
  clear hpl hrd
  go_enter Try.func14, Try.ntmps14
  go_wp2_with fail
  refine (buf_any h).mono ?_
  rintro e w1 ⟨rfl, hw⟩
  obtain rfl : w = w1 := hw.symm
  clear hw
  go_wp2_with fail
  refine (numLongs_any h).mono ?_
  rintro e w1 ⟨rfl, hw⟩
  obtain rfl : w = w1 := hw.symm
  clear hw
  go_wp2_with fail
  go_loopw [6, 7, 8] (fun o p i wr => ∃ (k prev : Nat) (out : List Int), k ≤ ls.length ∧ i = .int .i64 k ∧ p = .int .i64 prev ∧ prev ≤ bs.length ∧ wr.ownsRow w.heap.size 5 1 o out.length (bcells out) ∧
      out ++ flat bs prev (ls.drop k) = flat bs 0 ls ∧ placed bs.length prev (ls.drop k) ∧ Below w.heap.size w wr) (fun _ _ i _ => ls.length - (intOf i).toNat)
  case atStart => exact ⟨0, 0, [], Nat.zero_le _, rfl, rfl, Nat.zero_le _, World.ownsRow_nil _ _ _ _, rfl, HP.out, Below.refl _ _⟩
  case round =>
    obtain ⟨k, prev, out, hk, rfl, rfl, hpr, hown, hfl2, hpl, hbel⟩ := hrel
    have HF : Hid (out ++ flat bs prev (ls.drop k) = flat bs 0 ls) := hfl2
    have HW : Wk wr f (.slice ad bs.length cap) lv bs ls hd fr sz := h.below hbel
    clear hfl2
    by_cases hlt : k < ls.length
    · have hdr : ls.drop k = ls[k] :: ls.drop (k + 1) := List.drop_eq_getElem_cons hlt
      rw [hdr] at hpl HF
      obtain ⟨hp1, hp2, hp3⟩ := hpl
      have hmem : ls[k] ∈ ls := List.getElem_mem hlt
      have hrk := ((HRD.out _ hmem).lt).below hbel
      obtain ⟨A, hA⟩ : ∃ A : Nat, ls[k].1 = (A : Int) := Int.eq_ofNat_of_zero_le (Int.le_trans (Int.natCast_nonneg _) hp1)
      have HA : Hid (ls[k].1 = (A : Int)) := hA
      rw [hA] at hp1 hp2 hp3
      rw [Int.toNat_natCast] at hp3
      clear hA hdr hmem
      go_wp2_with fail
      refine (longAt_any HW k hlt hll).mono ?_
      rintro e w1 ⟨rfl, hw⟩
      obtain rfl : wr = w1 := hw.symm
      clear hw
      rw [HA.out]
      have hF0 := HF.out
      simp only [flat, HA.out, Int.toNat_natCast] at hF0
      obtain ⟨seg, hseg⟩ : ∃ seg, seg = (bs.take A).drop prev := ⟨_, rfl⟩
      have hr1 : Rd (fun _ => True) wr (.slice (if cap = prev then ad else ad.map (·.add prev)) (A - prev) (cap - prev)) (bcells seg) := by
        rw [hseg, ← bcells_cut]; exact Rd.cut HW.buf (by omega) (by omega)
      rw [← hseg] at hF0
      have HF0 : Hid (out ++ (seg ++ (ls[k].2.2 ++ flat bs A (ls.drop (k + 1)))) = flat bs 0 ls) := hF0
      have hlen := congrArg List.length hF0
      simp only [List.length_append] at hlen
      have hmx : out.length + (bcells seg).length ≤ maxLen := by rw [bcells_length]; unfold maxLen; omega
      have hbx : (out.length + (bcells seg).length) * 1 ≤ 140737488355328 := by rw [bcells_length]; omega
      have hbs : w.heap.size ≤ wr.heap.size := hbel.size
      have hmx2 : out.length + seg.length + (bcells ls[k].2.2).length ≤ maxLen := by rw [bcells_length]; unfold maxLen; omega
      have hbx2 : (out.length + seg.length + (bcells ls[k].2.2).length) * 1 ≤ 140737488355328 := by rw [bcells_length]; omega
      clear hseg hF0 HF hlen
      go_wp2_with (at_builtin; generalize Value.slice (if cap = prev then ad else Option.map (fun x => x.add prev) ad) (A - prev) (cap - prev) = sv at hr1 ⊢; refine wpList_append_rd _ rfl (.tmp 31) (.tmp 35) 30 rfl w.heap.size 5 i0 (.int .u8 0) 1 Try.underlying30 hi hz0 hz1 hz2 rfl _ _ _ rfl hown rfl hr1 (bcells_one _) hmx hbx hbs ?_; intro o1 w1 hown1 hgrow1 hat1)
      rw [bcells_length] at hown1
      have hb1 : Below w.heap.size w w1 := hbel.grown hgrow1 hbs (fun j hj => (ownsRow_lt hown hj).1)
      have HW1 : Wk w1 f (.slice ad bs.length cap) lv bs ls hd fr sz := h.below hb1
      have hmem : ls[k] ∈ ls := List.getElem_mem hlt
      have hrk := ((HRD.out _ hmem).lt).below hb1
      have hbs1 : w.heap.size ≤ w1.heap.size := hb1.size
      clear hown hgrow1 hat1 hr1 hmx hbx hbel HW hmem
      refine (longBytes_any HW1 k hlt hll).mono ?_
      rintro e w2 ⟨rfl, hw⟩
      obtain rfl : w1 = w2 := hw.symm
      clear hw
      generalize ls[k].2.1 = pv at hrk
      generalize ls[k].2.2 = pb at hrk hmx2 hbx2 HF0
      go_wp2_with (at_builtin; (refine wpList_append_rd _ rfl (.tmp 37) (.tmp 40) 30 rfl w.heap.size 5 i0 (.int .u8 0) 1 Try.underlying30 hi hz0 hz1 hz2 rfl _ _ _ rfl hown1 rfl hrk (bcells_one _) hmx2 hbx2 hbs1 ?_))
      intro o2 w2 hown2 hgrow2 hat2
      rw [bcells_length, ← bcells_append, ← bcells_append] at hown2
      have hb2 : Below w.heap.size w w2 := hb1.grown hgrow2 hbs1 (fun j hj => (ownsRow_lt hown1 hj).1)
      have HO : Hid (w2.ownsRow w.heap.size 5 1 o2 (out ++ seg ++ pb).length (bcells (out ++ seg ++ pb))) := by
        have e : (out ++ seg ++ pb).length = out.length + seg.length + pb.length := by simp; omega
        rw [e, List.append_assoc]; exact hown2
      have HPL : Hid (placed bs.length A (ls.drop (k + 1))) := hp3
      clear hown1 hown2 hgrow2 hat2 hrk hmx2 hbx2 hb1 HW1 hp3
      go_wp2
      go_roundw
      case rel =>
        refine ⟨k + 1, A, out ++ seg ++ pb, by omega, by go_num, rfl, by omega, HO.out, ?_, HPL.out, hb2⟩
        rw [← HF0.out]; simp
      case measure => simp [intOf]; omega
    · have hkn : k = ls.length := by omega
      have hdr : ls.drop k = [] := by rw [hkn]; simp
      rw [hdr] at HF
      have hF0 := HF.out
      simp only [flat] at hF0
      obtain ⟨seg, hseg⟩ : ∃ seg, seg = bs.drop prev := ⟨_, rfl⟩
      have hr1 : Rd (fun _ => True) wr (.slice (if cap = prev then ad else ad.map (·.add prev)) (bs.length - prev) (cap - prev)) (bcells seg) := by
        have e := bcells_cut bs prev bs.length
        rw [List.take_of_length_le (Nat.le_refl bs.length)] at e
        rw [hseg, ← e]; exact Rd.cut HW.buf (by omega) (by omega)
      rw [← hseg] at hF0
      have HF0 : Hid (out ++ seg = flat bs 0 ls) := hF0
      have hlen := congrArg List.length hF0
      simp only [List.length_append] at hlen
      have hmx : out.length + (bcells seg).length ≤ maxLen := by rw [bcells_length]; unfold maxLen; omega
      have hbx : (out.length + (bcells seg).length) * 1 ≤ 140737488355328 := by rw [bcells_length]; omega
      have hbs : w.heap.size ≤ wr.heap.size := hbel.size
      clear hseg hF0 HF hlen hkn hdr
      go_wp2_with (at_builtin; generalize Value.slice (if cap = prev then ad else Option.map (fun x => x.add prev) ad) (bs.length - prev) (cap - prev) = sv at hr1 ⊢; refine wpList_append_rd _ rfl (.tmp 43) (.tmp 46) 30 rfl w.heap.size 5 i0 (.int .u8 0) 1 Try.underlying30 hi hz0 hz1 hz2 rfl _ _ _ rfl hown rfl hr1 (bcells_one _) hmx hbx hbs ?_; intro o1 w1 hown1 hgrow1 hat1)
      rw [bcells_length, ← bcells_append, ← List.length_append] at hown1
      have hb1 : Below w.heap.size w w1 := hbel.grown hgrow1 hbs (fun j hj => (ownsRow_lt hown hj).1)
      clear hown hgrow1 hat1 hr1 hmx hbx hbel HW
      have HO : Hid (w1.ownsRow w.heap.size 5 1 o1 (out ++ seg).length (bcells (out ++ seg))) := hown1
      clear hown1
      go_ret2
      refine ⟨o1, rfl, ?_, hb1⟩
      rw [← HF0.out]; exact HO.out
end Go.Proofs.Qxb6600175a
