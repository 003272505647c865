/-
  zzCloneChunks (9): a new row of new rows; nothing old turns.
-/
import Derived.Test.Qxb6600175aCloneB
namespace Go.Proofs.Qxb6600175a
open Go.RowKit

theorem Try.info30 : (Try.prog.info? 30).map (fun i => (i.zero, i.size, i.bytes)) = some (some (.slice none 0 0), 1, 24) := by kernel_rfl

/-- A slice of byte slices: each element's value and its bytes. -/
def RdC (R : Nat → Prop) (w : World) (v : Value) (ps : List (Value × List Int)) : Prop :=
  Rd R w v (ps.map (·.1)) ∧ ∀ p ∈ ps, Rd R w p.1 (bcells p.2)
theorem RdC.keep {R : Nat → Prop} {w w' : World} {v : Value} {ps : List (Value × List Int)} (h : RdC R w v ps) (k : Keep R w w') : RdC R w' v ps :=
  ⟨h.1.keep k, fun p hp => (h.2 p hp).keep k⟩
theorem RdC.mono {R R' : Nat → Prop} {w : World} {v : Value} {ps : List (Value × List Int)} (h : RdC R w v ps) (hs : ∀ k, R k → k < w.heap.size → R' k) : RdC R' w v ps :=
  ⟨h.1.mono hs, fun p hp => (h.2 p hp).mono hs⟩

/-- the row of the clones so far -/
def cells9 (qs : List (Value × List Int)) (m : Nat) : List Value := qs.map (·.1) ++ List.replicate m (.slice none 0 0)
theorem cells9_length (qs : List (Value × List Int)) (m : Nat) : (cells9 qs m).length = qs.length + m := by simp [cells9]
theorem cells9_set (qs : List (Value × List Int)) (m : Nat) (u : Value × List Int) : (cells9 qs (m + 1)).set qs.length u.1 = cells9 (qs ++ [u]) m := by
  simp [cells9, List.replicate_succ]

theorem step9 {w wr w1 : World} {n k : Nat} {qs : List (Value × List Int)} {v' : Value} {c : List Int} (hkn : k < n) (hq : qs.length = k)
    (hown : wr.ownsRow w.heap.size 30 1 (.slice (some ⟨w.heap.size, 0, none⟩) n n) n (cells9 qs (n - k))) (hsz : w.heap.size < wr.heap.size)
    (hrd : ∀ q ∈ qs, Rd (fun j => w.heap.size < j) wr q.1 (bcells q.2)) (hb : Below w.heap.size w wr)
    (hv : w1.ownsRow wr.heap.size 5 1 v' c.length (bcells c)) (hb1 : Below wr.heap.size wr w1) :
    (w1.setCell ⟨w.heap.size, k, none⟩ v').ownsRow w.heap.size 30 1 (.slice (some ⟨w.heap.size, 0, none⟩) n n) n (cells9 (qs ++ [(v', c)]) (n - (k + 1))) ∧
    w.heap.size < (w1.setCell ⟨w.heap.size, k, none⟩ v').heap.size ∧
    (∀ q ∈ qs ++ [(v', c)], Rd (fun j => w.heap.size < j) (w1.setCell ⟨w.heap.size, k, none⟩ v') q.1 (bcells q.2)) ∧ Below w.heap.size w (w1.setCell ⟨w.heap.size, k, none⟩ v') := by
  have h1 : w1.ownsRow w.heap.size 30 1 (.slice (some ⟨w.heap.size, 0, none⟩) n n) n (cells9 qs (n - k)) :=
    ownsRow_block hown (fun j hj => by simp [Value.ownBlock] at hj; subst hj; exact hb1.block _ hsz)
  have h2 := h1.stored k v'
  have e : n - k = (n - (k + 1)) + 1 := by omega
  rw [e, ← hq, cells9_set qs _ (v', c)] at h2
  rw [hq] at h2
  have hs1 := hb1.size
  refine ⟨h2.1, by simp [World.setCell]; omega, ?_, ?_⟩
  · intro q hqm
    have hkeep : Keep (fun j => w.heap.size < j) w1 (w1.setCell ⟨w.heap.size, k, none⟩ v') := (Keep.refl _ _).setCell (by simp) _
    rcases List.mem_append.1 hqm with hqm | hqm
    · refine Rd.keep ?_ hkeep
      have := ((hrd q hqm).mono (R' := fun j => w.heap.size < j ∧ j < wr.heap.size) (fun j a b => ⟨a, b⟩)).keep (w' := w1) (Keep.of_below hb1 (fun j hj => hj.2))
      exact this.mono (fun j a _ => a.1)
    · simp at hqm; subst hqm
      refine Rd.keep ?_ hkeep
      exact (Rd.of_own hv).mono (fun j hj _ => by have := (ownsRow_lt hv hj).1; omega)
  · exact (hb.trans (hb1.mono (by omega))).setCell (by simp) _

set_option maxHeartbeats 1000000 in
theorem cloneChunks_any {R : Nat → Prop} (v : Value) (ps : List (Value × List Int)) (w : World) (h : RdC R w v ps) (hl : ps.length ≤ 1099511627776) (hl2 : ∀ p ∈ ps, p.2.length ≤ 1099511627776) :
    Calls Try.prog 9 #[v] w fun e w' => ∃ v' qs, e = .returned v' ∧ qs.map (·.2) = ps.map (·.2) ∧ RdC (fun k => w.heap.size ≤ k) w' v' qs ∧ Below w.heap.size w w' := by
  have q22 : ∀ (w : World) (a : Option Addr) (n c n' c' : Nat), (binOp .eql 22 (.slice a n c) (.slice none n' c')).run Try.prog w = .ok (.bool a.isNone) w := fun w a n c n' c' => Lib.run_eql_slice_nil w _ _ a n c n' c' Try.underlying22
  obtain ⟨⟨ad, cap, rfl, h1, h2, h3, h4⟩, h5⟩ := h
  obtain ⟨n, hn⟩ : ∃ n, ps.length = n := ⟨_, rfl⟩
  have HN : Hid (ps.length = n) := hn
  rw [List.length_map, hn] at h1 ⊢
  rw [hn] at hl
  cases ad with
  | none =>
    have h0 : cap = 0 := h3 rfl
    obtain rfl : n = 0 := by omega
    obtain rfl : ps = [] := List.eq_nil_of_length_eq_zero hn
    clear h1 h2 h3 h4 hn HN
    subst h0
    go_enter Try.func9, Try.ntmps9
    go_wp2
    go_ret
    exact ⟨_, [], rfl, rfl, ⟨⟨none, 0, rfl, by simp, by simp [maxLen], fun _ => rfl, fun h => absurd rfl h⟩, by simp⟩, Below.refl _ _⟩
  | some a =>
    have hm : n ≤ maxLen := by unfold maxLen; omega
    obtain ⟨i0, hi, hz0, hz1, hz2⟩ := info_parts Try.info30
    -- the source's cell k, in a later world
    have hsrc : ∀ k, k < n → ∃ b off ad' cap' c, a = ⟨b, off, none⟩ ∧ c.length ≤ 1099511627776 ∧ (ps[k]?).map (·.2) = some c ∧ ∀ wr, Below w.heap.size w wr → wr.cell? ⟨b, off + k, none⟩ = some (.slice ad' c.length cap') ∧ Rd (· < w.heap.size) wr (.slice ad' c.length cap') (bcells c) := by
      intro k hk
      obtain ⟨b, off, e1, _, hc⟩ := h4 (by intro e; have := congrArg List.length e; simp at this; subst this; simp at hn; omega)
      obtain rfl := Option.some.inj e1
      have hkl : k < ps.length := by omega
      have hmem : ps[k] ∈ ps := List.getElem_mem hkl
      have hrd := (h5 _ hmem).lt
      obtain ⟨ad', cap', e2, r⟩ := id hrd
      rw [bcells_length] at e2
      refine ⟨b, off, ad', cap', ps[k].2, rfl, hl2 _ hmem, by simp [hkl], fun wr hb => ⟨?_, ?_⟩⟩
      · refine cell_later hb (hc k _ ?_)
        simp [hkl, e2]
      · rw [← e2]; exact hrd.below hb
    have HS : Hid (∀ k, k < n → ∃ b off ad' cap' c, a = ⟨b, off, none⟩ ∧ c.length ≤ 1099511627776 ∧ (ps[k]?).map (·.2) = some c ∧ ∀ wr, Below w.heap.size w wr → wr.cell? ⟨b, off + k, none⟩ = some (.slice ad' c.length cap') ∧ Rd (· < w.heap.size) wr (.slice ad' c.length cap') (bcells c)) := hsrc
    clear hsrc h4 h3 hn h5 hl2
    go_enter Try.func9, Try.ntmps9
    go_wp2_with (at_make; refine wpList_make_full _ rfl _ _ 22 rfl w.heap.size 30 i0 (.slice none 0 0) 1 Try.underlying22 hi hz0 hz1 .i64 .i64 _ _ n rfl rfl rfl rfl ?b2 ?b3 ?b4 ?_)
    case b2 => rw [hz2]; omega
    case b3 => exact hm
    case b4 => exact Nat.le_refl _
    intro w1 hown hgrow
    have hb1 : Below w.heap.size w w1 := (Below.refl _ _).grown hgrow (Nat.le_refl _) (fun k hk => by cases hk)
    have hz1' : w.heap.size < w1.heap.size := by have := ownsRow_lt hown (k := w.heap.size) rfl; omega
    have HO : Hid (w1.ownsRow w.heap.size 30 1 (.slice (some ⟨w.heap.size, 0, none⟩) n n) n (cells9 [] n)) := by
      rw [show (madeCells #[Value.slice none 0 0] n).toList = cells9 [] n from by rw [toList_madeCells_one]; simp [cells9]] at hown
      exact hown
    clear hown hgrow
    go_wp2
    go_loopw [4] (fun i wr => ∃ (k : Nat) (qs : List (Value × List Int)), k ≤ n ∧ i = .int .i64 k ∧ qs.map (·.2) = (ps.map (·.2)).take k ∧ wr.ownsRow w.heap.size 30 1 (.slice (some ⟨w.heap.size, 0, none⟩) n n) n (cells9 qs (n - k)) ∧
        w.heap.size < wr.heap.size ∧ (∀ q ∈ qs, Rd (fun j => w.heap.size < j) wr q.1 (bcells q.2)) ∧ Below w.heap.size w wr) (fun i _ => n - (intOf i).toNat)
    case atStart => exact ⟨0, [], Nat.zero_le _, rfl, rfl, HO.out, hz1', by simp, hb1⟩
    case round =>
      obtain ⟨k, qs, hk, rfl, hqs, hown, hsz, hrd, hbel⟩ := hrel
      have HQ : Hid (qs.map (·.2) = (ps.map (·.2)).take k) := hqs
      have HOW : Hid (wr.ownsRow w.heap.size 30 1 (.slice (some ⟨w.heap.size, 0, none⟩) n n) n (cells9 qs (n - k))) := hown
      have HRD : Hid (∀ q ∈ qs, Rd (fun j => w.heap.size < j) wr q.1 (bcells q.2)) := hrd
      clear hqs hown hrd
      by_cases hlt : k < n
      · obtain ⟨b, off, ad', cap', c, rfl, hcl, hpk, hcell⟩ := HS.out k hlt
        obtain ⟨hc1, hc2⟩ := hcell wr hbel
        have HPK : Hid ((ps[k]?).map (·.2) = some c) := hpk
        clear hcell hpk
        go_wp2_with fail
        refine (cloneBytes_any _ (bcells c) wr hc2 (bcells_one c) (by rw [bcells_length]; exact hcl)).mono ?_
        rintro e w2 ⟨v', rfl, hown2, hb2⟩
        rw [bcells_length] at hown2
        obtain ⟨ad2, cap2, hv2, _, _⟩ := ownsRow_form hown2
        have hql : qs.length = k := by have := congrArg List.length HQ.out; have e2 := HN.out; simp at this; omega
        have R := step9 hlt hql HOW.out hsz HRD.out hbel hown2 hb2
        have hrow : w2.ownsRow w.heap.size 30 1 (.slice (some ⟨w.heap.size, 0, none⟩) n n) n (cells9 qs (n - k)) :=
          ownsRow_block HOW.out (fun j hj => by simp [Value.ownBlock] at hj; subst hj; exact hb2.block _ hsz)
        have hcc : ∃ u, w2.cell? ⟨w.heap.size, k, none⟩ = some u := by
          rw [hrow.cellAt k (by omega)]
          exact ⟨_, List.getElem?_eq_getElem (by rw [cells9_length]; omega)⟩
        have hfr : w2.frozen? ⟨w.heap.size, k, none⟩ = false := hrow.frozenAt k
        obtain ⟨u0, hcc⟩ := hcc
        have HR : Hid (_ ∧ _ ∧ _ ∧ _) := R
        clear R hrow hown2 hb2 hc1 hc2 hbel
        rw [hv2]
        rw [hv2] at HR
        go_wp2
        go_roundw
        case rel =>
          obtain ⟨r1, r2, r3, r4⟩ := HR.out
          refine ⟨k + 1, _, by omega, by go_num, ?_, r1, r2, r3, r4⟩
          rw [List.map_append, HQ.out]
          have e := HPK.out
          have hkl : k < ps.length := by have := HN.out; omega
          simp [hkl] at e
          simp [List.take_add_one, hkl, e]
        case measure => simp [intOf]; omega
      · have hkn : k = n := by omega
        go_wp2
        go_ret
        have hl2 : qs.length = n := by have := congrArg List.length HQ.out; have e2 := HN.out; simp at this; omega
        have hown := HOW.out
        rw [hkn, Nat.sub_self] at hown
        have ec : cells9 qs 0 = qs.map (·.1) := by simp [cells9]
        rw [ec] at hown
        refine ⟨_, rfl, qs, ?_, ⟨?_, ?_⟩, hbel⟩
        · rw [HQ.out]; apply List.take_of_length_le; have := HN.out; simp; omega
        · have := (Rd.of_own hown).mono (R' := fun k => w.heap.size ≤ k) (fun j hj _ => (ownsRow_lt hown hj).1)
          exact this
        · exact fun q hq => (HRD.out q hq).mono (fun j hj _ => Nat.le_of_lt hj)
end Go.Proofs.Qxb6600175a
