/-
  zzStreamOffset (23).
-/
import Derived.Test.Qxb6600175aScrMem
namespace Go.Proofs.Qxb6600175a
open Go.RowKit
set_option linter.unusedVariables false

theorem soff_le (pos : Nat) : ∀ ls : List (Int × Value × List Int), soff pos ls ≤ pos + ltot ls
  | [] => by simp [soff, ltot]
  | p :: ps => by
    have := soff_le pos ps
    simp only [soff, ltot]
    split <;> omega
theorem soff_ge (pos : Nat) : ∀ ls : List (Int × Value × List Int), pos ≤ soff pos ls
  | [] => by simp [soff]
  | p :: ps => by
    have := soff_ge pos ps
    simp only [soff]; omega

theorem soff_any {R : Nat → Prop} {w : World} {f : Nat} {bv lv : Value} {bs : List Int} {ls : List (Int × Value × List Int)} {hd fr sz : Int} (h : Wk w f bv lv bs ls hd fr sz) (hrd : ∀ p ∈ ls, Rd R w p.2.1 (bcells p.2.2)) (pos : Nat)
    (hll : ls.length ≤ 1099511627776) (hb : pos + ltot ls ≤ 1099511627776) :
    Calls Try.prog 23 #[.pointer (some ⟨f, 0, none⟩), .int .i64 pos] w fun e w' => e = .returned (.int .i64 (soff pos ls : Nat)) ∧ w' = w := by
  have HRD : Hid (∀ p ∈ ls, Rd R w p.2.1 (bcells p.2.2)) := hrd
  have hs := soff_le pos ls
  clear hrd
  go_enter Try.func23, Try.ntmps23
  go_wp2_with fail
  refine (numLongs_any h).mono ?_
  rintro e w1 ⟨rfl, hw⟩
  obtain rfl : w = w1 := hw.symm
  clear hw
  go_wp2_with fail
  go_loop [5, 7] (fun o i => ∃ k x : Nat, k ≤ ls.length ∧ i = .int .i64 k ∧ o = .int .i64 x ∧ x + soff pos (ls.drop k) = soff pos ls + pos) (fun _ i => ls.length - (intOf i).toNat)
  case atStart => exact ⟨0, pos, Nat.zero_le _, rfl, rfl, by simp [Nat.add_comm]⟩
  case round =>
    obtain ⟨k, x, hk, rfl, rfl, hx⟩ := hrel
    by_cases hlt : k < ls.length
    · have hdr : ls.drop k = ls[k] :: ls.drop (k + 1) := List.drop_eq_getElem_cons hlt
      rw [hdr] at hx
      simp only [soff] at hx
      have hge := soff_ge pos (ls.drop (k + 1))
      obtain ⟨ad, cap, hv⟩ := (HRD.out _ (List.getElem_mem hlt)).form
      have HX : Hid (x + ((if ls[k].1 ≤ pos then ls[k].2.2.length else 0) + soff pos (ls.drop (k + 1))) = soff pos ls + pos) := hx
      have HV : Hid (ls[k].2.1 = .slice ad ls[k].2.2.length cap) := hv
      clear hx hdr hv
      go_wp2_with fail
      refine (longAt_any h k hlt hll).mono ?_
      rintro e w1 ⟨rfl, hw⟩
      obtain rfl : w = w1 := hw.symm
      clear hw
      by_cases ha : ls[k].1 ≤ pos
      · have hx := HX.out
        rw [if_pos ha] at hx
        have HX2 : Hid (x + ls[k].2.2.length + soff pos (ls.drop (k + 1)) = soff pos ls + pos) := by show _ = _; omega
        have hxb : x + ls[k].2.2.length ≤ 1099511627776 := by omega
        clear hx HX
        go_wp2_with fail
        refine (longBytes_any h k hlt hll).mono ?_
        rintro e w1 ⟨rfl, hw⟩
        obtain rfl : w = w1 := hw.symm
        clear hw
        rw [HV.out]
        go_wp2
        go_round
        case rel => exact ⟨k + 1, _, by omega, by go_num, by go_num, HX2.out⟩
        case measure => simp [intOf]; omega
      · have hx := HX.out
        rw [if_neg ha] at hx
        have HX2 : Hid (x + soff pos (ls.drop (k + 1)) = soff pos ls + pos) := by show _ = _; omega
        clear hx HX
        generalize ls[k].1 = A at ha
        go_wp2
        go_round
        case rel => exact ⟨k + 1, x, by omega, by go_num, rfl, HX2.out⟩
        case measure => simp [intOf]; omega
    · have hdr : ls.drop k = [] := by apply List.drop_eq_nil_of_le; omega
      rw [hdr] at hx
      simp only [soff] at hx
      have HX : Hid (x = soff pos ls) := by show _ = _; omega
      clear hx hdr
      go_wp2
      go_ret
      exact ⟨by rw [← HX.out]; rfl, rfl⟩
end Go.Proofs.Qxb6600175a
