/-
  Memory vocabulary for the frameWriter laws: 'Rd' (what a slice value reads as, and in which blocks), 'Keep' (which blocks stay), laws on append whatever the source.
-/
import Derived.WalkKit
import Derived.WalkSpells
import Derived.WalkLawsBesides
import Derived.Laws.CopyOwn
import Derived.Laws.AppendOwnNone
import Derived.Deep.AppendLies
import Derived.Deep.Draws
namespace Go.Proofs.Qxb6600175a
open Go.RowKit

/-- bytes as cells -/
def bcells (bs : List Int) : List Value := bs.map (Value.int .u8)
theorem bcells_length (bs : List Int) : (bcells bs).length = bs.length := by simp [bcells]
theorem bcells_append (a b : List Int) : bcells (a ++ b) = bcells a ++ bcells b := by simp [bcells]
theorem bcells_one (bs : List Int) : ∀ u ∈ bcells bs, u.oneCell' = true := ints_oneCell .u8 bs

/-- The slice value v reads as the cells cs (one cell an element), lying in a block of R. -/
def Rd (R : Nat → Prop) (w : World) (v : Value) (cs : List Value) : Prop :=
  ∃ ad cap, v = .slice ad cs.length cap ∧ cs.length ≤ cap ∧ cap ≤ maxLen ∧ (ad = none → cap = 0) ∧
    (cs ≠ [] → ∃ b off, ad = some ⟨b, off, none⟩ ∧ R b ∧ ∀ i u, cs[i]? = some u → w.cell? ⟨b, off + i, none⟩ = some u)

/-- Blocks of R stay. -/
structure Keep (R : Nat → Prop) (w w' : World) : Prop where
  os : w'.os = w.os
  tape : w'.tape = w.tape
  output : w'.output = w.output
  size : w.heap.size ≤ w'.heap.size
  block : ∀ k, R k → w'.heap[k]? = w.heap[k]?

theorem Keep.refl (R : Nat → Prop) (w : World) : Keep R w w := ⟨rfl, rfl, rfl, Nat.le_refl _, fun _ _ => rfl⟩
theorem Keep.trans {R : Nat → Prop} {a b c : World} (h : Keep R a b) (k : Keep R b c) : Keep R a c :=
  ⟨k.os.trans h.os, k.tape.trans h.tape, k.output.trans h.output, Nat.le_trans h.size k.size, fun i hi => (k.block i hi).trans (h.block i hi)⟩
theorem Keep.mono {R R' : Nat → Prop} {w w' : World} (h : Keep R w w') (hs : ∀ k, R' k → R k) : Keep R' w w' :=
  ⟨h.os, h.tape, h.output, h.size, fun k hk => h.block k (hs k hk)⟩
theorem Keep.drew {R : Nat → Prop} {a w : World} (h : Keep R a w) : Keep R a w.drew := ⟨h.os, h.tape, h.output, h.size, h.block⟩
theorem Keep.drewN {R : Nat → Prop} {a w : World} (h : Keep R a w) (n : Nat) : Keep R a (w.drewN n) := ⟨h.os, h.tape, h.output, h.size, h.block⟩
theorem Keep.below {B : Nat} {R : Nat → Prop} {w w' : World} (h : Keep R w w') (hB : ∀ k, k < B → R k) : Below B w w' :=
  ⟨h.os, h.tape, h.output, h.size, fun k hk => h.block k (hB k hk)⟩
theorem Keep.of_below {B : Nat} {R : Nat → Prop} {w w' : World} (h : Below B w w') (hB : ∀ k, R k → k < B) : Keep R w w' :=
  ⟨h.os, h.tape, h.output, h.size, fun k hk => h.block k (hB k hk)⟩
theorem Keep.alloc {R : Nat → Prop} {a w : World} (h : Keep R a w) (hR : ∀ k, R k → k < w.heap.size) (o : Obj) : Keep R a (w.alloc o) :=
  h.trans ⟨rfl, rfl, rfl, by simp, fun k hk => Below.heap_alloc _ _ _ (hR k hk)⟩
theorem Keep.setCell {R : Nat → Prop} {a w : World} (h : Keep R a w) {p : Addr} (hp : ¬ R p.block) (u : Value) : Keep R a (w.setCell p u) :=
  h.trans ⟨rfl, rfl, rfl, by simp [World.setCell], fun k hk => Below.heap_setCell _ _ _ _ (fun e => hp (e ▸ hk))⟩
theorem Keep.grown {R : Nat → Prop} {a w w' : World} {row : Option Nat} (h : Keep R a w) (hg : w.grownBy w' row) (hR : ∀ k, R k → k < w.heap.size) (hr : ∀ k, row = some k → ¬ R k) : Keep R a w' :=
  h.trans ⟨hg.os, hg.tape, hg.output, hg.size, fun k hk => hg.block k (hR k hk) (fun e => hr k e.symm hk)⟩
theorem Keep.cell {R : Nat → Prop} {w w' : World} (h : Keep R w w') {p : Addr} (hp : R p.block) : w'.cell? p = w.cell? p := World.cell?_of_block (w := w) (h.block p.block hp)

theorem Rd.keep {R : Nat → Prop} {w w' : World} {v : Value} {cs : List Value} (h : Rd R w v cs) (k : Keep R w w') : Rd R w' v cs := by
  obtain ⟨ad, cap, rfl, h1, h2, h3, h4⟩ := h
  refine ⟨ad, cap, rfl, h1, h2, h3, fun hne => ?_⟩
  obtain ⟨b, off, e, hb, hc⟩ := h4 hne
  exact ⟨b, off, e, hb, fun i u hu => (k.cell (p := ⟨b, off + i, none⟩) hb).trans (hc i u hu)⟩
theorem Rd.mono {R R' : Nat → Prop} {w : World} {v : Value} {cs : List Value} (h : Rd R w v cs) (hs : ∀ k, R k → k < w.heap.size → R' k) : Rd R' w v cs := by
  obtain ⟨ad, cap, rfl, h1, h2, h3, h4⟩ := h
  refine ⟨ad, cap, rfl, h1, h2, h3, fun hne => ?_⟩
  obtain ⟨b, off, e, hb, hc⟩ := h4 hne
  refine ⟨b, off, e, hs b hb ?_, hc⟩
  cases cs with
  | nil => exact absurd rfl hne
  | cons u us => exact World.block_lt_of_cell? w ⟨b, off + 0, none⟩ (hc 0 u rfl)
/-- Below a number. -/
theorem Rd.below {B : Nat} {w w' : World} {v : Value} {cs : List Value} (h : Rd (· < B) w v cs) (k : Below B w w') : Rd (· < B) w' v cs :=
  h.keep (Keep.of_below k (fun _ h => h))
theorem Rd.lt {R : Nat → Prop} {w : World} {v : Value} {cs : List Value} (h : Rd R w v cs) : Rd (· < w.heap.size) w v cs := h.mono (fun _ _ h => h)

theorem Rd.of_own {base e : Nat} {w : World} {v : Value} {n : Nat} {cs : List Value} (h : w.ownsRow base e 1 v n cs) : Rd (fun k => v.ownBlock = some k) w v cs := by
  have hl : cs.length = n := by simpa using h.1
  rcases h.2 with ⟨rfl, rfl⟩ | ⟨g, cap, cur, rfl, hb, hg, h1, h2, h3, h4⟩
  · obtain rfl : cs = [] := List.eq_nil_of_length_eq_zero hl
    exact ⟨none, 0, rfl, Nat.le_refl _, Nat.zero_le _, fun _ => rfl, fun h => absurd rfl h⟩
  · refine ⟨some ⟨g, 0, none⟩, cap, by rw [hl], by omega, h2, (fun h => by cases h), fun _ => ⟨g, 0, rfl, rfl, fun i u hu => ?_⟩⟩
    have := h.cells (g := g) rfl i u hu
    rwa [Addr.add_lit] at this

/-- What a slice of one-cell elements appends: the law at 'wpList', whatever the source (nil, empty, cut). -/
theorem run_append_rd {P : Program} (w : World) (base : Nat) (t ty e : TypeId) (i : TypeInfo) (z : Value) (bytes : Nat) (ht : P.underlying t = some (.slice e)) (hi : P.info? e = some i) (hz : i.zero = some z)
    (hsize : i.size = 1) (hby : i.bytes = bytes) (hzs : z.cells.size = 1) (v : Value) (n : Nat) (xs : List Value) (hown : w.ownsRow base e 1 v n xs)
    {R : Nat → Prop} {xv : Value} {news : List Value} (hx : Rd R w xv news) (h1 : ∀ u ∈ news, u.oneCell' = true)
    (h63 : n + news.length ≤ maxLen) (hbytes : (n + news.length) * bytes ≤ 140737488355328) (hbase : base ≤ w.heap.size) :
    ∃ v' w', (Builtin.append_ #[t, t] ty #[v, xv]).run P w = .ok v' w' ∧ w'.ownsRow base e 1 v' (n + news.length) (xs ++ news) ∧ w.grownBy w' v.ownBlock ∧ (v'.ownBlock = v.ownBlock ∨ v'.ownBlock = some w.heap.size) := by
  obtain ⟨ad, cap, rfl, hl, hc, hn, hcell⟩ := hx
  cases ad with
  | none =>
    have := hn rfl
    obtain rfl : news = [] := List.eq_nil_of_length_eq_zero (by omega)
    subst this
    exact ⟨v, w, run_append_owned_none (P := P) w base t ty e i 1 ht hi v n xs hown, by simpa using hown, World.grownBy.refl _ _, .inl rfl⟩
  | some a =>
    have hcells : ∀ j u, news[j]? = some u → w.cell? (a.add j) = some u := by
      intro j u hu
      have hne : news ≠ [] := by intro e; subst e; simp at hu
      obtain ⟨b, off, e1, _, hcc⟩ := hcell hne
      obtain rfl := Option.some.inj e1
      rw [Addr.add_lit]; exact hcc j u hu
    obtain ⟨v', w', r1, r2, r3, _, r5⟩ := run_append_own_at (P := P) w base t ty e i z 1 bytes ht hi hz hsize hby hzs (by decide) v n xs hown a news.length cap news (by simp) hcells h1 h63 hbytes hbase
    exact ⟨v', w', r1, r2, r3, r5⟩

theorem wpList_append_rd {P : Program} (w : World) {ops : Array Oper} {rest : List Oper} {o : Oper} {a : Act} {Q : Exit → Act → World → Prop} (hgd : o.guard = none) (s x : Operand) (t : TypeId)
    (ho : o.op = .call { callee := .builtin .append, args := #[s, x], argTypes := #[t, t] })
    (base : Nat) (e : TypeId) (i : TypeInfo) (z : Value) (bytes : Nat) (ht : P.underlying t = some (.slice e)) (hi : P.info? e = some i) (hz : i.zero = some z)
    (hsize : i.size = 1) (hby : i.bytes = bytes) (hzs : z.cells.size = 1) (v : Value) (n : Nat) (xs : List Value) (hs : a.eval s = v) (hown : w.ownsRow base e 1 v n xs)
    {R : Nat → Prop} {xv : Value} {news : List Value} (hxe : a.eval x = xv) (hx : Rd R w xv news) (h1 : ∀ u ∈ news, u.oneCell' = true)
    (h63 : n + news.length ≤ maxLen) (hbytes : (n + news.length) * bytes ≤ 140737488355328) (hbase : base ≤ w.heap.size)
    (h : ∀ v' w', w'.ownsRow base e 1 v' (n + news.length) (xs ++ news) → w.grownBy w' v.ownBlock → (v'.ownBlock = v.ownBlock ∨ v'.ownBlock = some w.heap.size) → wpList P ops Q rest (a.put o.dst v') w') : wpList P ops Q (o :: rest) a w := by
  refine wpList_plain hgd fun K hK => ?_
  obtain ⟨v', w', hr, h2, h3, h4⟩ := run_append_rd (P := P) w base t o.type e i z bytes ht hi hz hsize hby hzs v n xs hown hx h1 h63 hbytes hbase
  unfold Oper.wp
  simp [execOp, ho, resolve, invoke, builtin, hs, hxe, hr, Result.andThen]
  exact hK _ _ (h v' w' h2 h3 h4)

/-- A smaller base serves. -/
theorem ownsRow_base {w : World} {base base' e size : Nat} {v : Value} {n : Nat} {xs : List Value} (h : w.ownsRow base e size v n xs) (hb : base' ≤ base) : w.ownsRow base' e size v n xs := by
  refine ⟨h.1, ?_⟩
  rcases h.2 with h2 | ⟨g, cap, cur, hv, hg, r⟩
  · exact .inl h2
  · exact .inr ⟨g, cap, cur, hv, by omega, r⟩
theorem ownsRow_block {w w' : World} {base e size : Nat} {v : Value} {n : Nat} {xs : List Value} (h : w.ownsRow base e size v n xs) (hk : ∀ k, v.ownBlock = some k → w'.heap[k]? = w.heap[k]?) : w'.ownsRow base e size v n xs := by
  refine ⟨h.1, ?_⟩
  rcases h.2 with h2 | ⟨g, cap, cur, rfl, hg, hh, r⟩
  · exact .inl h2
  · exact .inr ⟨g, cap, cur, rfl, hg, (hk g rfl).trans hh, r⟩
theorem ownsRow_keep {R : Nat → Prop} {w w' : World} {base e size : Nat} {v : Value} {n : Nat} {xs : List Value} (h : w.ownsRow base e size v n xs) (hk : Keep R w w') (hR : ∀ k, v.ownBlock = some k → R k) : w'.ownsRow base e size v n xs :=
  ownsRow_block h (fun k hk' => hk.block k (hR k hk'))
/-- Rows of different element types lie in different blocks. -/
theorem ownsRow_ne {w : World} {base base' e e' size size' : Nat} {v v' : Value} {n n' : Nat} {xs xs' : List Value} (h : w.ownsRow base e size v n xs) (h' : w.ownsRow base' e' size' v' n' xs') (hne : e ≠ e') {k : Nat} (hk : v.ownBlock = some k) : v'.ownBlock ≠ some k := by
  intro hk'
  rcases h.2 with ⟨rfl, _⟩ | ⟨g, cap, cur, rfl, _, hh, _⟩
  · simp [Value.ownBlock] at hk
  rcases h'.2 with ⟨rfl, _⟩ | ⟨g', cap', cur', rfl, _, hh', _⟩
  · simp [Value.ownBlock] at hk'
  simp [Value.ownBlock] at hk hk'
  subst hk; subst hk'
  rw [hh] at hh'
  simp at hh'
  exact hne hh'.2
theorem ownsRow_ne_block {w : World} {base e size : Nat} {v : Value} {n : Nat} {xs : List Value} (h : w.ownsRow base e size v n xs) {f : Nat} {c : Array Value} {t : TypeId} {fz : Nat × Nat} (hf : w.heap[f]? = some (.cells c t fz)) (hne : e ≠ t) : v.ownBlock ≠ some f := by
  intro hk
  rcases h.2 with ⟨rfl, _⟩ | ⟨g, cap, cur, rfl, _, hh, _⟩
  · simp [Value.ownBlock] at hk
  simp [Value.ownBlock] at hk
  subst hk
  rw [hf] at hh
  simp at hh
  exact hne hh.2.1.symm
theorem ownsRow_lt {w : World} {base e size : Nat} {v : Value} {n : Nat} {xs : List Value} (h : w.ownsRow base e size v n xs) {k : Nat} (hk : v.ownBlock = some k) : base ≤ k ∧ k < w.heap.size := h.lt k hk
/-- Behind an append the row lies where it lay, or in a new block. -/
theorem ownsRow_form {w : World} {base e size : Nat} {v : Value} {n : Nat} {xs : List Value} (h : w.ownsRow base e size v n xs) : ∃ ad cap, v = .slice ad n cap ∧ n ≤ cap ∧ cap ≤ maxLen := by
  rcases h.2 with ⟨rfl, rfl⟩ | ⟨g, cap, cur, rfl, _, _, h1, h2, _⟩
  · exact ⟨none, 0, rfl, Nat.le_refl _, Nat.zero_le _⟩
  · exact ⟨_, cap, rfl, h1, h2⟩
end Go.Proofs.Qxb6600175a
