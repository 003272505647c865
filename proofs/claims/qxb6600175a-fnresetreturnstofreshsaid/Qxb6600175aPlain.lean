/-
  The stream's plain laws: what a short or a long stretch does to 'flat' and 'placed'; a writer that lives above a mark; the loop of stretches.
-/
import Derived.Test.Qxb6600175aFlat
namespace Go.Proofs.Qxb6600175a
open Go.RowKit
set_option linter.unusedVariables false

theorem placed_mono : ∀ {n m prev : Nat} {ls : List (Int × Value × List Int)}, n ≤ m → placed n prev ls → placed m prev ls
  | n, m, prev, [], _, _ => trivial
  | n, m, prev, p :: ps, h, hp => ⟨hp.1, by have := hp.2.1; omega, placed_mono h hp.2.2⟩
theorem placed_snoc : ∀ {n prev : Nat} {ls : List (Int × Value × List Int)} (v : Value) (x : List Int), prev ≤ n → placed n prev ls → placed n prev (ls ++ [((n : Int), v, x)])
  | n, prev, [], v, x, h, _ => ⟨by show (prev : Int) ≤ (n : Int); omega, by show (n : Int) ≤ (n : Int); omega, trivial⟩
  | n, prev, p :: ps, v, x, h, hp => ⟨hp.1, hp.2.1, placed_snoc v x (by have := hp.2.1; omega) hp.2.2⟩
theorem flat_short : ∀ {bs : List Int} {prev : Nat} {ls : List (Int × Value × List Int)} (x : List Int), prev ≤ bs.length → placed bs.length prev ls → flat (bs ++ x) prev ls = flat bs prev ls ++ x
  | bs, prev, [], x, h, _ => by simp only [flat]; rw [List.drop_append_of_le_length h]
  | bs, prev, p :: ps, x, h, hp => by
    have h1 := hp.2.1
    have ih := flat_short (bs := bs) (prev := p.1.toNat) (ls := ps) x (by omega) hp.2.2
    simp only [flat]
    rw [ih, List.take_append_of_le_length (by omega)]
    simp
theorem flat_long : ∀ {bs : List Int} {prev : Nat} {ls : List (Int × Value × List Int)} (v : Value) (x : List Int), prev ≤ bs.length → placed bs.length prev ls → flat bs prev (ls ++ [((bs.length : Int), v, x)]) = flat bs prev ls ++ x
  | bs, prev, [], v, x, h, _ => by simp [flat]
  | bs, prev, p :: ps, v, x, h, hp => by
    have h1 := hp.2.1
    have ih := flat_long (bs := bs) (prev := p.1.toNat) (ls := ps) v x (by omega) hp.2.2
    simp only [flat, List.cons_append]
    rw [ih]
    simp
/-- the longs' bytes in all -/
def ltot : List (Int × Value × List Int) → Nat
  | [] => 0
  | p :: ps => p.2.2.length + ltot ps
theorem flat_length : ∀ {bs : List Int} {prev : Nat} {ls : List (Int × Value × List Int)}, prev ≤ bs.length → placed bs.length prev ls → (flat bs prev ls).length = bs.length - prev + ltot ls
  | bs, prev, [], h, _ => by simp [flat, ltot]
  | bs, prev, p :: ps, h, hp => by
    have h0 := hp.1
    have h1 := hp.2.1
    have ih := flat_length (bs := bs) (prev := p.1.toNat) (ls := ps) (by omega) hp.2.2
    simp only [flat, ltot, List.length_append, List.length_drop, List.length_take]
    rw [ih]
    omega
theorem ltot_zip : ∀ (ats : List Int) (q : List (Value × List Int)), ltot (ats.zip q) ≤ tot q
  | [], q => by simp [ltot]
  | a :: xs, [] => by simp [ltot]
  | a :: xs, p :: ps => by
    have := ltot_zip xs ps
    simp only [List.zip_cons_cons, ltot]
    have e : tot (p :: ps) = p.2.length + tot ps := by simp [tot]
    rw [e]; omega
/-- the stream does not look at where the longs' bytes lie -/
theorem flat_congr : ∀ {bs : List Int} {prev : Nat} {ls ls' : List (Int × Value × List Int)}, ls.map (fun p => (p.1, p.2.2)) = ls'.map (fun p => (p.1, p.2.2)) → flat bs prev ls = flat bs prev ls'
  | bs, prev, [], [], _ => rfl
  | bs, prev, [], _ :: _, h => by simp at h
  | bs, prev, _ :: _, [], h => by simp at h
  | bs, prev, p :: ps, q :: qs, h => by
    simp only [List.map_cons, List.cons.injEq, Prod.mk.injEq] at h
    simp only [flat]
    rw [h.1.1, h.1.2, flat_congr h.2]
theorem placed_congr : ∀ {n prev : Nat} {ls ls' : List (Int × Value × List Int)}, ls.map (fun p => (p.1, p.2.2)) = ls'.map (fun p => (p.1, p.2.2)) → placed n prev ls → placed n prev ls'
  | n, prev, [], [], _, _ => trivial
  | n, prev, [], _ :: _, h, _ => by simp at h
  | n, prev, _ :: _, [], h, _ => by simp at h
  | n, prev, p :: ps, q :: qs, h, hp => by
    simp only [List.map_cons, List.cons.injEq, Prod.mk.injEq] at h
    obtain ⟨a, b, c⟩ := hp
    rw [h.1.1] at a b c
    exact ⟨a, b, placed_congr h.2 c⟩
theorem zip_congr : ∀ (ats : List Int) {q q' : List (Value × List Int)}, q'.map (·.2) = q.map (·.2) → (ats.zip q').map (fun p => (p.1, p.2.2)) = (ats.zip q).map (fun p => (p.1, p.2.2))
  | [], q, q', _ => by simp
  | a :: xs, [], [], _ => by simp
  | a :: xs, [], _ :: _, h => by simp at h
  | a :: xs, _ :: _, [], h => by simp at h
  | a :: xs, p :: ps, p' :: ps', h => by
    simp only [List.map_cons, List.cons.injEq] at h
    simp only [List.zip_cons_cons, List.map_cons]
    rw [h.1, zip_congr xs h.2]

/-- the first k pieces, joined -/
def join (q : List (Value × List Int)) (k : Nat) : List Int := ((q.take k).map (·.2)).flatten
theorem join_succ (q : List (Value × List Int)) (k : Nat) (h : k < q.length) : join q (k + 1) = join q k ++ q[k].2 := by
  unfold join; rw [List.take_succ_eq_append_getElem h, List.map_append, List.flatten_append]; simp
theorem join_length (q : List (Value × List Int)) (k : Nat) : (join q k).length = tot (q.take k) := by
  unfold join tot; rw [List.length_flatten, List.map_map]; rfl
theorem tot_take_le (q : List (Value × List Int)) (k : Nat) : tot (q.take k) ≤ tot q := by
  have e : tot q = tot (q.take k) + tot (q.drop k) := by
    unfold tot; rw [← List.sum_append, ← List.map_append, List.take_append_drop]
  omega

/-- one stretch more: what it does to buf, longs and stream -/
theorem app_flat {bs : List Int} {ls : List (Int × Value × List Int)} (pv : Value) (x : List Int) (h : placed bs.length 0 ls) :
    placed (appBs bs x).length 0 (appLs bs ls pv x) ∧ flat (appBs bs x) 0 (appLs bs ls pv x) = flat bs 0 ls ++ x ∧ (appBs bs x).length ≤ bs.length + x.length ∧ (appLs bs ls pv x).length ≤ ls.length + 1 := by
  unfold appBs appLs
  by_cases hs : x.length < 512
  · rw [if_pos hs, if_pos hs]
    exact ⟨placed_mono (by simp) h, flat_short x (Nat.zero_le _) h, by simp, by omega⟩
  · rw [if_neg hs, if_neg hs]
    exact ⟨placed_snoc pv x (Nat.zero_le _) h, flat_long pv x (Nat.zero_le _) h, by omega, by simp⟩

/-- the loop of stretches: k of them played on the writer f, whose stream was fl -/
def StrRel (R Q : Nat → Prop) (U : World) (f : Nat) (fl : List Int) (n0 m0 : Nat) (hd fr sz : Int) (q : List (Value × List Int)) (k : Nat) (wr : World) : Prop :=
  ∃ bv lv bs ls, Wr R wr f bv lv bs ls hd fr (wrap64 (sz + tot (q.take k))) ∧ (∀ p ∈ ls, Rd Q wr p.2.1 (bcells p.2.2)) ∧ placed bs.length 0 ls ∧ flat bs 0 ls = fl ++ join q k ∧ bs.length ≤ n0 + tot (q.take k) ∧ ls.length ≤ m0 + k ∧ Keep R U wr

theorem str_step {R Q : Nat → Prop} {U wr w' : World} {f : Nat} {fl : List Int} {n0 m0 : Nat} {hd fr sz : Int} {q : List (Value × List Int)} {k : Nat} (hk : k < q.length) (hQ : ∀ j, Q j → R j) {bs : List Int} {ls : List (Int × Value × List Int)} {pv : Value}
    (h2 : ∀ p ∈ ls, Rd Q wr p.2.1 (bcells p.2.2)) (hpv : Rd Q wr pv (bcells q[k].2)) (h3 : placed bs.length 0 ls) (h4 : flat bs 0 ls = fl ++ join q k) (h5 : bs.length ≤ n0 + tot (q.take k)) (h6 : ls.length ≤ m0 + k) (hK : Keep R U wr) {bv' lv' : Value}
    (hW : Wr R w' f bv' lv' (appBs bs q[k].2) (appLs bs ls pv q[k].2) hd fr (wrap64 (wrap64 (sz + tot (q.take k)) + q[k].2.length))) (hK' : Keep R wr w') :
    StrRel R Q U f fl n0 m0 hd fr sz q (k + 1) w' := by
  have ht := tot_take q k hk
  rw [wrap64_wrap] at hW
  have es : sz + (tot (q.take k) : Int) + (q[k].2.length : Int) = sz + (tot (q.take (k + 1)) : Int) := by rw [ht]; omega
  rw [es] at hW
  obtain ⟨a1, a2, a3, a4⟩ := app_flat pv q[k].2 h3
  refine ⟨bv', lv', _, _, hW, ?_, a1, ?_, by omega, by omega, hK.trans hK'⟩
  · intro p hp
    have hkq := hK'.mono hQ
    unfold appLs at hp
    split at hp
    · exact (h2 p hp).keep hkq
    · rcases List.mem_append.1 hp with hp | hp
      · exact (h2 p hp).keep hkq
      · simp at hp; subst hp; exact hpv.keep hkq
  · rw [a2, h4, join_succ q k hk]; simp

/-- k is none of a writer's three blocks -/
def Apart (f : Nat) (bv lv : Value) (k : Nat) : Prop := k ≠ f ∧ bv.ownBlock ≠ some k ∧ lv.ownBlock ≠ some k

/-- a writer all of whose blocks lie from lo on -/
structure WIn (lo : Nat) (w : World) (f : Nat) (bv lv : Value) (bs : List Int) (ls : List (Int × Value × List Int)) (hd fr sz : Int) : Prop where
  wk : Wk w f bv lv bs ls hd fr sz
  rd : ∀ p ∈ ls, Rd (fun k => lo ≤ k ∧ Apart f bv lv k) w p.2.1 (bcells p.2.2)
  f_ge : lo ≤ f
  b_ge : ∀ k, bv.ownBlock = some k → lo ≤ k
  l_ge : ∀ k, lv.ownBlock = some k → lo ≤ k

section
variable {lo : Nat} {w : World} {f : Nat} {bv lv : Value} {bs : List Int} {ls : List (Int × Value × List Int)} {hd fr sz : Int}
theorem WIn.below {w' : World} (h : WIn lo w f bv lv bs ls hd fr sz) (hb : Below w.heap.size w w') : WIn lo w' f bv lv bs ls hd fr sz := by
  refine ⟨h.wk.below hb, fun p hp => ?_, h.f_ge, h.b_ge, h.l_ge⟩
  have := ((h.rd p hp).mono (R' := fun k => (lo ≤ k ∧ Apart f bv lv k) ∧ k < w.heap.size) (fun k a b => ⟨a, b⟩)).keep (w' := w') (Keep.of_below hb (fun k x => x.2))
  exact this.mono (fun k a _ => a.1)
theorem WIn.keep {R : Nat → Prop} {w' : World} (h : WIn lo w f bv lv bs ls hd fr sz) (hk : Keep R w w') (hR : ∀ k, lo ≤ k → k < w.heap.size → R k) : WIn lo w' f bv lv bs ls hd fr sz := by
  refine ⟨h.wk.keep hk (hR _ h.f_ge (lt_of_block h.wk.blk)) (fun j hj => hR _ (h.b_ge j hj) (ownsRow_lt h.wk.buf hj).2) (fun j hj => hR _ (h.l_ge j hj) (ownsRow_lt h.wk.lng hj).2), fun p hp => ?_, h.f_ge, h.b_ge, h.l_ge⟩
  have := ((h.rd p hp).mono (R' := fun k => (lo ≤ k ∧ Apart f bv lv k) ∧ R k) (fun k a b => ⟨a, hR k a.1 b⟩)).keep (w' := w') (hk.mono (fun k x => x.2))
  exact this.mono (fun k a _ => a.1)
/-- what a writer may not touch: all that is there but its three blocks -/
theorem WIn.wr (h : WIn lo w f bv lv bs ls hd fr sz) : Wr (fun k => k < w.heap.size ∧ Apart f bv lv k) w f bv lv bs ls hd fr sz :=
  ⟨h.wk, fun p hp => (h.rd p hp).mono (fun k a b => ⟨b, a.2⟩), fun x => x.2.1 rfl, fun k hk x => x.2.2.1 hk, fun k hk x => x.2.2.2 hk, fun k x => x.1⟩
theorem WIn.apart (h : WIn lo w f bv lv bs ls hd fr sz) {k : Nat} (hk : k < lo) : Apart f bv lv k :=
  ⟨by have := h.f_ge; omega, fun e => by have := h.b_ge k e; omega, fun e => by have := h.l_ge k e; omega⟩
end

theorem zip_mem {ats : List Int} {q : List (Value × List Int)} {p : Int × Value × List Int} (h : p ∈ ats.zip q) : p.2 ∈ q := (List.of_mem_zip h).2

/-- New over rows made before: all from lo on -/
theorem WIn.make {lo : Nat} {u w1 : World} {bv lv v2 : Value} {bs ats : List Int} {q : List (Value × List Int)} {hd fr sz : Int}
    (hb : u.ownsRow lo 5 1 bv bs.length (bcells bs)) (hq : RdC (fun k => lo ≤ k ∧ bv.ownBlock ≠ some k) u v2 q) (hlo : lo ≤ u.heap.size)
    (hl : w1.ownsRow u.heap.size 50 2 lv (ats.zip q).length (lcells (ats.zip q))) (hbel : Below u.heap.size u w1) :
    WIn lo (w1.alloc (.cells #[bv, lv, .int .i64 hd, .int .i64 fr, .int .i64 sz] 52)) w1.heap.size bv lv bs (ats.zip q) hd fr sz := by
  have hb1 : w1.ownsRow lo 5 1 bv bs.length (bcells bs) := ownsRow_block hb (fun k hk => hbel.block k (ownsRow_lt hb hk).2)
  have hsz := hbel.size
  refine ⟨⟨heap_alloc_new _ _, (ownsRow_base hb1 (Nat.zero_le _)).alloc _, (ownsRow_base hl (Nat.zero_le _)).alloc _⟩, fun p hp => ?_, by omega, fun k hk => (ownsRow_lt hb hk).1, fun k hk => by have := (ownsRow_lt hl hk).1; omega⟩
  have h0 := hq.2 _ (zip_mem hp)
  have h1 := (h0.mono (R' := fun k => (lo ≤ k ∧ bv.ownBlock ≠ some k) ∧ k < u.heap.size) (fun k a b => ⟨a, b⟩)).keep (w' := w1) (Keep.of_below hbel (fun k x => x.2))
  have h2 := h1.keep (w' := w1.alloc (.cells #[bv, lv, .int .i64 hd, .int .i64 fr, .int .i64 sz] 52)) ((Keep.refl _ _).alloc (fun k x => by have := x.2; omega) _)
  exact h2.mono (fun k a _ => ⟨a.1.1, by have := a.2; omega, a.1.2, fun e => by have := (ownsRow_lt hl e).1; have := a.2; omega⟩)
end Go.Proofs.Qxb6600175a
