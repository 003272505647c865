/-
  zzSameLongs (29) at two writers that hold the same longs: true.
-/
import Derived.Test.Qxb6600175aLater
namespace Go.Proofs.Qxb6600175a
open Go.RowKit
set_option linter.unusedVariables false

theorem same_at {ls ls' : List (Int × Value × List Int)} (h : ls.map (fun p => (p.1, p.2.2)) = ls'.map (fun p => (p.1, p.2.2))) (k : Nat) (hk : k < ls.length) (hk' : k < ls'.length) : ls[k].1 = ls'[k].1 ∧ ls[k].2.2 = ls'[k].2.2 := by
  have := congrArg (fun l => l[k]?) h
  simp [hk, hk'] at this
  exact this
theorem Wk.drewAt {w : World} {f : Nat} {bv lv : Value} {bs : List Int} {ls : List (Int × Value × List Int)} {hd fr sz : Int} (h : Wk w f bv lv bs ls hd fr sz) (n : Nat) : Wk (w.drewN n) f bv lv bs ls hd fr sz :=
  h.keep ((Keep.refl (fun _ => True) w).drewN n) trivial (fun _ _ => trivial) (fun _ _ => trivial)
theorem Rd.drewAt {R : Nat → Prop} {w : World} {v : Value} {cs : List Value} (h : Rd R w v cs) (n : Nat) : Rd R (w.drewN n) v cs := h.keep ((Keep.refl R w).drewN n)

set_option maxHeartbeats 1000000 in
theorem same_any {R R' : Nat → Prop} {w : World} {f g : Nat} {bv lv bv' lv' : Value} {bs bs' : List Int} {ls ls' : List (Int × Value × List Int)} {hd fr sz hd' fr' sz' : Int} (hf : Wk w f bv lv bs ls hd fr sz) (hg : Wk w g bv' lv' bs' ls' hd' fr' sz')
    (rf : ∀ p ∈ ls, Rd R w p.2.1 (bcells p.2.2)) (rg : ∀ p ∈ ls', Rd R' w p.2.1 (bcells p.2.2)) (hm : ls.map (fun p => (p.1, p.2.2)) = ls'.map (fun p => (p.1, p.2.2))) (hl : ls.length ≤ 1099511627776) (hb : ∀ p ∈ ls, p.2.2.length ≤ 1099511627776) :
    Calls Try.prog 29 #[.pointer (some ⟨f, 0, none⟩), .pointer (some ⟨g, 0, none⟩)] w (TruePost w) := by
  have hlen : ls'.length = ls.length := by have := congrArg List.length hm; simpa using this.symm
  have HF : Hid (Wk w f bv lv bs ls hd fr sz ∧ Wk w g bv' lv' bs' ls' hd' fr' sz' ∧ (∀ p ∈ ls, Rd R w p.2.1 (bcells p.2.2)) ∧ (∀ p ∈ ls', Rd R' w p.2.1 (bcells p.2.2)) ∧ ls.map (fun p => (p.1, p.2.2)) = ls'.map (fun p => (p.1, p.2.2)) ∧ ls'.length = ls.length ∧ (∀ p ∈ ls, p.2.2.length ≤ 1099511627776)) := ⟨hf, hg, rf, rg, hm, hlen, hb⟩
  clear hf hg rf rg hm hlen hb
  go_enter Try.func29, Try.ntmps29
  go_wp2_with fail
  refine (numLongs_any HF.out.1).mono ?_
  rintro e w1 ⟨rfl, hw⟩
  obtain rfl : w = w1 := hw.symm
  clear hw
  go_wp2_with fail
  refine (numLongs_any HF.out.2.1).mono ?_
  rintro e w1 ⟨rfl, hw⟩
  obtain rfl : w = w1 := hw.symm
  clear hw
  rw [HF.out.2.2.2.2.2.1]
  go_wp2_with fail
  go_loopw [6] (fun i wr => ∃ k n : Nat, k ≤ ls.length ∧ i = .int .i64 k ∧ wr = w.drewN n) (fun i _ => ls.length - (intOf i).toNat)
  case atStart => exact ⟨0, 0, Nat.zero_le _, rfl, rfl⟩
  case round =>
    obtain ⟨k, n, hk, rfl, rfl⟩ := hrel
    by_cases hlt : k < ls.length
    · obtain ⟨hf, hg, rf, rg, hm, hlen, hb⟩ := HF.out
      have hlt' : k < ls'.length := by omega
      obtain ⟨s1, s2⟩ := same_at hm k hlt hlt'
      have c1 := longAt_any (hf.drewAt n) k hlt hl
      have c2 := longAt_any (hg.drewAt n) k hlt' (by omega)
      have c3 := longBytes_any (hf.drewAt n) k hlt hl
      have c4 := longBytes_any (hg.drewAt n) k hlt' (by omega)
      have r1 := (rf _ (List.getElem_mem hlt)).drewAt n
      have r2 := (rg _ (List.getElem_mem hlt')).drewAt n
      have hb1 := hb _ (List.getElem_mem hlt)
      rw [← s1] at c2
      rw [← s2] at r2
      have HC : Hid (_ ∧ _ ∧ _ ∧ _ ∧ _ ∧ _) := ⟨c1, c2, c3, c4, r1, r2⟩
      clear c1 c2 c3 c4 r1 r2 s1 s2 hf hg rf rg hm hlen hb
      go_wp2_with fail
      refine Calls.mono HC.out.1 ?_
      rintro e w1 ⟨rfl, hw⟩
      rw [hw]
      clear hw w1
      go_wp2_with fail
      refine Calls.mono HC.out.2.1 ?_
      rintro e w1 ⟨rfl, hw⟩
      rw [hw]
      clear hw w1
      go_wp2_with fail
      refine Calls.mono HC.out.2.2.1 ?_
      rintro e w1 ⟨rfl, hw⟩
      rw [hw]
      clear hw w1
      go_wp2_with fail
      refine Calls.mono HC.out.2.2.2.1 ?_
      rintro e w1 ⟨rfl, hw⟩
      rw [hw]
      clear hw w1
      go_wp2_with fail
      refine (equal_any HC.out.2.2.2.2.1 HC.out.2.2.2.2.2 hb1).mono ?_
      rintro e w1 ⟨rfl, n2, hw⟩
      rw [hw, World.drewN_drewN]
      clear hw w1 HC
      go_wp2
      go_roundw
      case rel => exact ⟨k + 1, _, by omega, by go_num, rfl⟩
      case measure => simp [intOf]; omega
    · go_wp2
      go_ret
      exact ⟨rfl, n, rfl⟩
end Go.Proofs.Qxb6600175a
