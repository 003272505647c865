/-
  FnScriptStreamMatchesModel: what stands in memory beside the writer (want, longAt, longIdx), and what each step does to it; the plain law of the script.
-/
import Derived.Test.Qxb6600175aPlain
namespace Go.Proofs.Qxb6600175a
open Go.RowKit
set_option linter.unusedVariables false

/-- ints as cells -/
def icells (xs : List Int) : List Value := xs.map (Value.int .i64)
theorem icells_length (xs : List Int) : (icells xs).length = xs.length := by simp [icells]
theorem icells_append (a b : List Int) : icells (a ++ b) = icells a ++ icells b := by simp [icells]

structure Mem3 (N : Nat) (w : World) (f : Nat) (bv lv wv av xv : Value) (bs : List Int) (ls : List (Int × Value × List Int)) (hd sz : Int) (want ats xs : List Int) : Prop where
  wk : Wk w f bv lv bs ls hd 0 sz
  rd : ∀ p ∈ ls, Rd (· < N) w p.2.1 (bcells p.2.2)
  wa : w.ownsRow N 5 1 wv want.length (bcells want)
  at_ : w.ownsRow N 3 1 av ats.length (icells ats)
  ix : w.ownsRow N 3 1 xv xs.length (icells xs)
  fN : N ≤ f
  bN : ∀ k, bv.ownBlock = some k → N ≤ k
  lN : ∀ k, lv.ownBlock = some k → N ≤ k
  bw : ∀ k, bv.ownBlock = some k → wv.ownBlock ≠ some k
  ax : ∀ k, av.ownBlock = some k → xv.ownBlock ≠ some k
  sN : N ≤ w.heap.size

section
variable {N : Nat} {w : World} {f : Nat} {bv lv wv av xv : Value} {bs : List Int} {ls : List (Int × Value × List Int)} {hd sz : Int} {want ats xs : List Int}

/-- all blocks of the five rows stay: so does what is known -/
theorem Mem3.move {w1 : World} (h : Mem3 N w f bv lv wv av xv bs ls hd sz want ats xs) (hs : w.heap.size ≤ w1.heap.size) (hk : ∀ k, k < w.heap.size → w1.heap[k]? = w.heap[k]?) : Mem3 N w1 f bv lv wv av xv bs ls hd sz want ats xs := by
  refine ⟨⟨(hk f (lt_of_block h.wk.blk)).trans h.wk.blk, ownsRow_block h.wk.buf (fun k e => hk k (ownsRow_lt h.wk.buf e).2), ownsRow_block h.wk.lng (fun k e => hk k (ownsRow_lt h.wk.lng e).2)⟩, fun p hp => ?_,
    ownsRow_block h.wa (fun k e => hk k (ownsRow_lt h.wa e).2), ownsRow_block h.at_ (fun k e => hk k (ownsRow_lt h.at_ e).2), ownsRow_block h.ix (fun k e => hk k (ownsRow_lt h.ix e).2), h.fN, h.bN, h.lN, h.bw, h.ax, by have := h.sN; omega⟩
  obtain ⟨ad, cap, e, r1, r2, r3, r4⟩ := h.rd p hp
  refine ⟨ad, cap, e, r1, r2, r3, fun hne => ?_⟩
  obtain ⟨b, off, e1, hb, hc⟩ := r4 hne
  refine ⟨b, off, e1, hb, fun i u hu => ?_⟩
  rw [World.cell?_of_block (w := w) (hk b (by have := h.sN; omega))]
  exact hc i u hu
theorem Mem3.alloc (h : Mem3 N w f bv lv wv av xv bs ls hd sz want ats xs) (o : Obj) : Mem3 N (w.alloc o) f bv lv wv av xv bs ls hd sz want ats xs :=
  h.move (by simp) (fun k hk => Below.heap_alloc _ _ _ hk)
theorem Mem3.drewN (h : Mem3 N w f bv lv wv av xv bs ls hd sz want ats xs) (n : Nat) : Mem3 N (w.drewN n) f bv lv wv av xv bs ls hd sz want ats xs :=
  h.move (Nat.le_refl _) (fun k _ => rfl)

/-- one row among them has been appended to: the others stay -/
theorem Mem3.others {w1 : World} {row : Option Nat} (h : Mem3 N w f bv lv wv av xv bs ls hd sz want ats xs) (hg : w.grownBy w1 row) (hrow : ∀ k, row = some k → N ≤ k) : Keep (· < N) w w1 :=
  (Keep.refl _ _).grown hg (fun k hk => by have := h.sN; show k < w.heap.size; have : k < N := hk; omega) (fun k e (hk : k < N) => by have := hrow k e; omega)

theorem Mem3.wantTo (h : Mem3 N w f bv lv wv av xv bs ls hd sz want ats xs) {w1 : World} {wv' : Value} {m : Nat} {x : List Int} (hx : x.length = m) (hown : w1.ownsRow N 5 1 wv' (want.length + m) (bcells want ++ bcells x)) (hg : w.grownBy w1 wv.ownBlock)
    {H : Nat} (hH : w.heap.size = H) (hat : wv'.ownBlock = wv.ownBlock ∨ wv'.ownBlock = some H) : Mem3 N w1 f bv lv wv' av xv bs ls hd sz (want ++ x) ats xs ∧ Keep (· < N) w w1 := by
  subst hH hx
  have hk := h.others hg (fun k e => (ownsRow_lt h.wa e).1)
  have ne : ∀ k, k < w.heap.size → wv.ownBlock ≠ some k → w1.heap[k]? = w.heap[k]? := fun k a b => hg.block k a (fun e => b e.symm)
  rw [← bcells_append, ← List.length_append] at hown
  refine ⟨⟨⟨(ne f (lt_of_block h.wk.blk) (ownsRow_ne_block h.wa h.wk.blk (by decide))).trans h.wk.blk, ownsRow_block h.wk.buf (fun k e => ne k (ownsRow_lt h.wk.buf e).2 (h.bw k e)), ownsRow_block h.wk.lng (fun k e => ne k (ownsRow_lt h.wk.lng e).2 (ownsRow_ne h.wk.lng h.wa (by decide) e))⟩, fun p hp => (h.rd p hp).keep hk, hown,
    ownsRow_block h.at_ (fun k e => ne k (ownsRow_lt h.at_ e).2 (ownsRow_ne h.at_ h.wa (by decide) e)), ownsRow_block h.ix (fun k e => ne k (ownsRow_lt h.ix e).2 (ownsRow_ne h.ix h.wa (by decide) e)), h.fN, h.bN, h.lN, ?_, h.ax, by have := h.sN; have := hg.size; omega⟩, hk⟩
  intro k e
  rcases hat with ht | ht
  · rw [ht]; exact h.bw k e
  · rw [ht]; intro e2; have := (ownsRow_lt h.wk.buf e).2; have := Option.some.inj e2; omega

theorem Mem3.atTo (h : Mem3 N w f bv lv wv av xv bs ls hd sz want ats xs) {w1 : World} {av' : Value} {m : Nat} {x : List Int} (hx : x.length = m) (hown : w1.ownsRow N 3 1 av' (ats.length + m) (icells ats ++ icells x)) (hg : w.grownBy w1 av.ownBlock)
    {H : Nat} (hH : w.heap.size = H) (hat : av'.ownBlock = av.ownBlock ∨ av'.ownBlock = some H) : Mem3 N w1 f bv lv wv av' xv bs ls hd sz want (ats ++ x) xs ∧ Keep (· < N) w w1 := by
  subst hH hx
  have hk := h.others hg (fun k e => (ownsRow_lt h.at_ e).1)
  have ne : ∀ k, k < w.heap.size → av.ownBlock ≠ some k → w1.heap[k]? = w.heap[k]? := fun k a b => hg.block k a (fun e => b e.symm)
  rw [← icells_append, ← List.length_append] at hown
  refine ⟨⟨⟨(ne f (lt_of_block h.wk.blk) (ownsRow_ne_block h.at_ h.wk.blk (by decide))).trans h.wk.blk, ownsRow_block h.wk.buf (fun k e => ne k (ownsRow_lt h.wk.buf e).2 (ownsRow_ne h.wk.buf h.at_ (by decide) e)), ownsRow_block h.wk.lng (fun k e => ne k (ownsRow_lt h.wk.lng e).2 (ownsRow_ne h.wk.lng h.at_ (by decide) e))⟩, fun p hp => (h.rd p hp).keep hk,
    ownsRow_block h.wa (fun k e => ne k (ownsRow_lt h.wa e).2 (ownsRow_ne h.wa h.at_ (by decide) e)), hown, ownsRow_block h.ix (fun k e => ne k (ownsRow_lt h.ix e).2 (fun e2 => h.ax k e2 e)), h.fN, h.bN, h.lN, h.bw, ?_, by have := h.sN; have := hg.size; omega⟩, hk⟩
  intro k e e2
  rcases hat with ht | ht
  · exact h.ax k (ht ▸ e) e2
  · rw [ht] at e; have := (ownsRow_lt h.ix e2).2; have := Option.some.inj e; omega

theorem Mem3.ixTo (h : Mem3 N w f bv lv wv av xv bs ls hd sz want ats xs) {w1 : World} {xv' : Value} {m : Nat} {x : List Int} (hx : x.length = m) (hown : w1.ownsRow N 3 1 xv' (xs.length + m) (icells xs ++ icells x)) (hg : w.grownBy w1 xv.ownBlock)
    {H : Nat} (hH : w.heap.size = H) (hat : xv'.ownBlock = xv.ownBlock ∨ xv'.ownBlock = some H) : Mem3 N w1 f bv lv wv av xv' bs ls hd sz want ats (xs ++ x) ∧ Keep (· < N) w w1 := by
  subst hH hx
  have hk := h.others hg (fun k e => (ownsRow_lt h.ix e).1)
  have ne : ∀ k, k < w.heap.size → xv.ownBlock ≠ some k → w1.heap[k]? = w.heap[k]? := fun k a b => hg.block k a (fun e => b e.symm)
  rw [← icells_append, ← List.length_append] at hown
  refine ⟨⟨⟨(ne f (lt_of_block h.wk.blk) (ownsRow_ne_block h.ix h.wk.blk (by decide))).trans h.wk.blk, ownsRow_block h.wk.buf (fun k e => ne k (ownsRow_lt h.wk.buf e).2 (ownsRow_ne h.wk.buf h.ix (by decide) e)), ownsRow_block h.wk.lng (fun k e => ne k (ownsRow_lt h.wk.lng e).2 (ownsRow_ne h.wk.lng h.ix (by decide) e))⟩, fun p hp => (h.rd p hp).keep hk,
    ownsRow_block h.wa (fun k e => ne k (ownsRow_lt h.wa e).2 (ownsRow_ne h.wa h.ix (by decide) e)), ownsRow_block h.at_ (fun k e => ne k (ownsRow_lt h.at_ e).2 (h.ax k e)), hown, h.fN, h.bN, h.lN, h.bw, ?_, by have := h.sN; have := hg.size; omega⟩, hk⟩
  intro k e
  rcases hat with ht | ht
  · rw [ht]; exact h.ax k e
  · rw [ht]; intro e2; have := (ownsRow_lt h.at_ e).2; have := Option.some.inj e2; omega

/-- what the writer may not touch: all below N, and the three rows -/
def Not3 (N : Nat) (wv av xv : Value) (k : Nat) : Prop := k < N ∨ wv.ownBlock = some k ∨ av.ownBlock = some k ∨ xv.ownBlock = some k

theorem Mem3.wr (h : Mem3 N w f bv lv wv av xv bs ls hd sz want ats xs) : Wr (Not3 N wv av xv) w f bv lv bs ls hd 0 sz := by
  refine ⟨h.wk, fun p hp => (h.rd p hp).mono (fun k a _ => .inl a), ?_, ?_, ?_, ?_⟩
  · rintro (a | a | a | a)
    · have := h.fN; omega
    · exact ownsRow_ne_block h.wa h.wk.blk (by decide) a
    · exact ownsRow_ne_block h.at_ h.wk.blk (by decide) a
    · exact ownsRow_ne_block h.ix h.wk.blk (by decide) a
  · rintro k e (a | a | a | a)
    · have := h.bN k e; omega
    · exact h.bw k e a
    · exact ownsRow_ne h.wk.buf h.at_ (by decide) e a
    · exact ownsRow_ne h.wk.buf h.ix (by decide) e a
  · rintro k e (a | a | a | a)
    · have := h.lN k e; omega
    · exact ownsRow_ne h.wk.lng h.wa (by decide) e a
    · exact ownsRow_ne h.wk.lng h.at_ (by decide) e a
    · exact ownsRow_ne h.wk.lng h.ix (by decide) e a
  · rintro k (a | a | a | a)
    · have := h.sN; omega
    · exact (ownsRow_lt h.wa a).2
    · exact (ownsRow_lt h.at_ a).2
    · exact (ownsRow_lt h.ix a).2

theorem Mem3.back (h : Mem3 N w f bv lv wv av xv bs ls hd sz want ats xs) {w' : World} {bv' lv' : Value} {bs' : List Int} {ls' : List (Int × Value × List Int)} {hd' sz' : Int} (hW : Wr (Not3 N wv av xv) w' f bv' lv' bs' ls' hd' 0 sz') (hK : Keep (Not3 N wv av xv) w w')
    (hrd : ∀ p ∈ ls', Rd (· < N) w p.2.1 (bcells p.2.2)) : Mem3 N w' f bv' lv' wv av xv bs' ls' hd' sz' want ats xs ∧ Keep (· < N) w w' := by
  have hK' : Keep (· < N) w w' := hK.mono (fun k a => .inl a)
  have out : ∀ k, ¬ Not3 N wv av xv k → N ≤ k := fun k hn => by
    rcases Nat.lt_or_ge k N with a | a
    · exact absurd (.inl a) hn
    · exact a
  refine ⟨⟨hW.wk, fun p hp => (hrd p hp).keep hK', ownsRow_keep h.wa hK (fun k e => .inr (.inl e)), ownsRow_keep h.at_ hK (fun k e => .inr (.inr (.inl e))), ownsRow_keep h.ix hK (fun k e => .inr (.inr (.inr e))), h.fN, fun k e => out k (hW.nb k e), fun k e => out k (hW.nl k e), ?_, h.ax, by have := h.sN; have := hK.size; omega⟩, hK'⟩
  intro k e e2
  exact hW.nb k e (.inr (.inl e2))
end

/-- where the byte at pos of buf stands in the stream -/
def soff (pos : Nat) : List (Int × Value × List Int) → Nat
  | [] => pos
  | p :: ps => (if p.1 ≤ pos then p.2.2.length else 0) + soff pos ps
theorem soff_all {pos n : Nat} : ∀ {ls : List (Int × Value × List Int)} {prev : Nat}, placed n prev ls → n ≤ pos → soff pos ls = pos + ltot ls
  | [], prev, _, _ => by simp [soff, ltot]
  | p :: ps, prev, h, hn => by
    have h1 := h.2.1
    have ih := soff_all (ls := ps) h.2.2 hn
    simp only [soff, ltot]
    rw [if_pos (by omega), ih]; omega
theorem soff_snoc (pos : Nat) : ∀ (ls : List (Int × Value × List Int)) (p : Int × Value × List Int), (pos : Int) < p.1 → soff pos (ls ++ [p]) = soff pos ls
  | [], p, h => by simp only [List.nil_append, soff]; rw [if_neg (by omega)]; omega
  | q :: qs, p, h => by
    simp only [List.cons_append, soff]
    rw [soff_snoc pos qs p h]

/-- where the last header stands -/
def HeadAt (bs : List Int) (ls : List (Int × Value × List Int)) (hd lb : Int) : Prop := lb = -1 ∨ ∃ h : Nat, hd = h ∧ h + 4 ≤ bs.length ∧ lb = (soff h ls : Nat)

/-- the plain law's state behind k steps of the script -/
structure Scr (q : List (Value × List Int)) (k : Nat) (bs : List Int) (ls : List (Int × Value × List Int)) (hd sz lb : Int) (want ats xs : List Int) : Prop where
  pl : placed bs.length 0 ls
  fl : flat bs 0 ls = want
  sz_ : sz = (want.length : Nat)
  at_ : ats = ls.map (·.1)
  xl : xs.length = ls.length
  ix : ∀ (j : Nat) (hj : j < ls.length), ∃ i : Nat, xs[j]? = some (i : Int) ∧ q[i]? = some ls[j].2
  hd_ : HeadAt bs ls hd lb
  bl : bs.length ≤ 4 * k + tot (q.take k)
  wl : want.length ≤ 4 * k + tot (q.take k)
  ll : ls.length ≤ k

theorem Scr.zero (q : List (Value × List Int)) : Scr q 0 [] [] 0 0 (-1) [] [] [] :=
  ⟨trivial, rfl, rfl, rfl, rfl, fun j hj => by simp at hj, .inl rfl, by simp, by simp, by simp⟩

/-- Behind a begin (the step not yet done: the bounds are those of the next step, less the stretch). -/
structure Scr1 (q : List (Value × List Int)) (k : Nat) (bs : List Int) (ls : List (Int × Value × List Int)) (hd sz lb : Int) (want ats xs : List Int) : Prop where
  pl : placed bs.length 0 ls
  fl : flat bs 0 ls = want
  sz_ : sz = (want.length : Nat)
  at_ : ats = ls.map (·.1)
  xl : xs.length = ls.length
  ix : ∀ (j : Nat) (hj : j < ls.length), ∃ i : Nat, xs[j]? = some (i : Int) ∧ q[i]? = some ls[j].2
  hd_ : HeadAt bs ls hd lb
  bl : bs.length ≤ 4 * (k + 1) + tot (q.take k)
  wl : want.length ≤ 4 * (k + 1) + tot (q.take k)
  ll : ls.length ≤ k

section
variable {q : List (Value × List Int)} {k : Nat} {bs : List Int} {ls : List (Int × Value × List Int)} {hd sz lb : Int} {want ats xs : List Int}
theorem Scr.skip (h : Scr q k bs ls hd sz lb want ats xs) : Scr1 q k bs ls hd sz lb want ats xs :=
  ⟨h.pl, h.fl, h.sz_, h.at_, h.xl, h.ix, h.hd_, by have := h.bl; omega, by have := h.wl; omega, h.ll⟩
theorem Scr.begin (h : Scr q k bs ls hd sz lb want ats xs) (hb : want.length ≤ 1099511627776) : Scr1 q k (bs ++ [0, 0, 0, 0]) ls bs.length (wrap64 (sz + 4)) want.length (want ++ [0, 0, 0, 0]) ats xs := by
  have hfl := flat_length (Nat.zero_le _) h.pl
  rw [h.fl] at hfl
  refine ⟨placed_mono (by simp) h.pl, by rw [flat_short _ (Nat.zero_le _) h.pl, h.fl], ?_, h.at_, h.xl, h.ix, .inr ⟨bs.length, rfl, by simp, ?_⟩, by simp; have := h.bl; omega, by simp; have := h.wl; omega, h.ll⟩
  · rw [h.sz_]
    have e : ((want ++ [0, 0, 0, 0]).length : Int) = (want.length : Int) + 4 := by simp
    rw [e]
    exact IntWalk.wrap64_in _ ⟨by omega, by omega⟩
  · rw [soff_all h.pl (Nat.le_refl _), hfl]; simp
theorem Scr1.step (h : Scr1 q k bs ls hd sz lb want ats xs) (hk : k < q.length) (hb : want.length ≤ 1099511627776) (hb2 : q[k].2.length ≤ 1099511627776) {pv : Value} (hpv : q[k].1 = pv) :
    Scr q (k + 1) (appBs bs q[k].2) (appLs bs ls pv q[k].2) hd (wrap64 (sz + q[k].2.length)) lb (want ++ q[k].2) (if q[k].2.length < 512 then ats else ats ++ [(bs.length : Int)]) (if q[k].2.length < 512 then xs else xs ++ [(k : Int)]) := by
  obtain ⟨a1, a2, a3, a4⟩ := app_flat pv q[k].2 h.pl
  have ht := tot_take q k hk
  have hsz : wrap64 (sz + q[k].2.length) = ((want ++ q[k].2).length : Nat) := by
    rw [h.sz_]
    have e : ((want ++ q[k].2).length : Int) = (want.length : Int) + (q[k].2.length : Int) := by simp
    rw [e]
    exact IntWalk.wrap64_in _ ⟨by omega, by omega⟩
  have hwl : (want ++ q[k].2).length ≤ 4 * (k + 1) + tot (q.take (k + 1)) := by rw [List.length_append]; have := h.wl; omega
  have hbl : (appBs bs q[k].2).length ≤ 4 * (k + 1) + tot (q.take (k + 1)) := by have := h.bl; omega
  have hll : (appLs bs ls pv q[k].2).length ≤ k + 1 := by have := h.ll; omega
  refine ⟨a1, by rw [a2, h.fl], hsz, ?_, ?_, ?_, ?_, hbl, hwl, hll⟩
  · unfold appLs
    split
    · exact h.at_
    · rw [h.at_]; simp
  · unfold appLs
    split
    · exact h.xl
    · simp [h.xl]
  · unfold appLs
    split
    · exact h.ix
    · intro j hj
      rw [List.length_append] at hj
      simp only [List.length_cons, List.length_nil] at hj
      by_cases hjl : j < ls.length
      · obtain ⟨i, e1, e2⟩ := h.ix j hjl
        refine ⟨i, ?_, ?_⟩
        · rw [List.getElem?_append_left (by rw [h.xl]; exact hjl)]; exact e1
        · rw [List.getElem_append_left hjl]; exact e2
      · obtain rfl : j = ls.length := by omega
        refine ⟨k, ?_, ?_⟩
        · rw [← h.xl]; simp
        · rw [List.getElem_append_right (Nat.le_refl _)]
          simp only [Nat.sub_self, List.getElem_cons_zero]
          rw [List.getElem?_eq_getElem hk, ← hpv]
  · rcases h.hd_ with e | ⟨h0, e1, e2, e3⟩
    · exact .inl e
    · right
      refine ⟨h0, e1, ?_, ?_⟩
      · unfold appBs; split
        · simp; omega
        · exact e2
      · rw [e3]
        unfold appLs; split
        · rfl
        · rw [soff_snoc]; show (h0 : Int) < (bs.length : Int); omega
end
end Go.Proofs.Qxb6600175a
