/- Words on memory for the proof of FnScopes: a world that is another but for some blocks and new ones; rows of cells; owners of blocks. -/
import Derived.Deep.AppendLies
import Derived.Below
import Derived.Laws.OwnMore
import Derived.WalkKit
import Derived.Deep.Draws
namespace Go.Proofs.Ytipmpeekfajlcaa
open Go.RowKit

/-- w' is w but for the blocks of M, and new ones. -/
structure Chg (M : Nat → Prop) (w w' : World) : Prop where
  os : w'.os = w.os
  tape : w'.tape = w.tape
  output : w'.output = w.output
  size : w.heap.size ≤ w'.heap.size
  block : ∀ k, k < w.heap.size → ¬ M k → w'.heap[k]? = w.heap[k]?

section
variable {M M' : Nat → Prop} {a b c w : World}

theorem Chg.refl (M : Nat → Prop) (w : World) : Chg M w w := ⟨rfl, rfl, rfl, Nat.le_refl _, fun _ _ _ => rfl⟩
theorem Chg.trans (h : Chg M a b) (k : Chg M' b c) (hM : ∀ i, M' i → M i ∨ a.heap.size ≤ i) : Chg M a c :=
  ⟨k.os.trans h.os, k.tape.trans h.tape, k.output.trans h.output, Nat.le_trans h.size k.size, fun i hi hn =>
    (k.block i (Nat.lt_of_lt_of_le hi h.size) (fun hm => (hM i hm).elim hn (fun hle => by omega))).trans (h.block i hi hn)⟩
theorem Chg.mono (h : Chg M a b) (hM : ∀ i, M i → M' i ∨ a.heap.size ≤ i) : Chg M' a b := (Chg.refl M' a).trans h hM
theorem Chg.alloc (h : Chg M a b) (o : Obj) : Chg M a (b.alloc o) :=
  h.trans (M' := fun _ => False) ⟨rfl, rfl, rfl, by simp, fun k hk _ => Below.heap_alloc _ _ _ hk⟩ (fun _ f => f.elim)
theorem Chg.setCell (h : Chg M a b) {p : Addr} (hp : M p.block ∨ a.heap.size ≤ p.block) (u : Value) : Chg M a (b.setCell p u) :=
  h.trans (M' := fun i => i = p.block) ⟨rfl, rfl, rfl, by simp [World.setCell], fun k _ hk => Below.heap_setCell _ _ _ _ hk⟩ (fun _ e => e ▸ hp)
theorem Chg.drew (h : Chg M a b) : Chg M a b.drew := ⟨h.os, h.tape, h.output, h.size, h.block⟩
theorem Chg.grown {row : Option Nat} (h : Chg M a b) (k : b.grownBy c row) (hr : ∀ i, row = some i → M i ∨ a.heap.size ≤ i) : Chg M a c :=
  h.trans (M' := fun i => row = some i) ⟨k.os, k.tape, k.output, k.size, fun i hi hn => k.block i hi (fun e => hn e.symm)⟩ hr
theorem Chg.below {B : Nat} (h : Chg M a b) (hM : ∀ i, M i → B ≤ i) (hB : B ≤ a.heap.size) : Below B a b :=
  ⟨h.os, h.tape, h.output, h.size, fun k hk => h.block k (by omega) (fun hm => by have := hM k hm; omega)⟩
theorem Below.chg (h : Below a.heap.size a b) (M : Nat → Prop) : Chg M a b := ⟨h.os, h.tape, h.output, h.size, fun k hk _ => h.block k hk⟩
theorem Chg.cell (h : Chg M a b) {p : Addr} {v : Value} (hc : a.cell? p = some v) (hn : ¬ M p.block) : b.cell? p = some v :=
  (World.cell?_of_block (h.block p.block (World.block_lt_of_cell? a p hc) hn)).trans hc
theorem Chg.heapAt (h : Chg M a b) {k : Nat} {o : Obj} (hk : a.heap[k]? = some o) (hn : ¬ M k) : b.heap[k]? = some o :=
  (h.block k (Array.getElem?_eq_some_iff.1 hk).1 hn).trans hk
theorem Chg.row (h : Chg M a b) {B : Nat} {e : TypeId} {size n : Nat} {v : Value} {xs : List Value} (ho : a.ownsRow B e size v n xs) (hn : ∀ g, v.ownBlock = some g → ¬ M g) : b.ownsRow B e size v n xs := by
  refine ⟨ho.1, ?_⟩
  rcases ho.2 with h0 | ⟨g, cap, cur, rfl, hb, hgg, rest⟩
  · exact .inl h0
  · exact .inr ⟨g, cap, cur, rfl, hb, h.heapAt hgg (hn g rfl), rest⟩
end

/-- What a row's slice looks like. -/
theorem row_shape {w : World} {B : Nat} {e : TypeId} {size n : Nat} {v : Value} {xs : List Value} (h : w.ownsRow B e size v n xs) : ∃ a cap, v = .slice a n cap := by
  rcases h.2 with ⟨rfl, rfl⟩ | ⟨g, cap, cur, rfl, _⟩
  · exact ⟨none, 0, rfl⟩
  · exact ⟨_, _, rfl⟩

theorem row_lt {w : World} {B : Nat} {e : TypeId} {size n : Nat} {v : Value} {xs : List Value} (h : w.ownsRow B e size v n xs) {g : Nat} (hg : v.ownBlock = some g) : B ≤ g ∧ g < w.heap.size := h.lt g hg

/-- The slice v reads as the values xs, a cell each. -/
def Reads (w : World) (v : Value) (xs : List Value) : Prop :=
  (xs = [] ∧ ∃ a c, v = .slice a 0 c) ∨ ∃ g cap, v = .slice (some ⟨g, 0, none⟩) xs.length cap ∧ 0 < xs.length ∧ ∀ i (h : i < xs.length), w.cell? ⟨g, i, none⟩ = some xs[i]

theorem reads_of_row {w : World} {B : Nat} {e : TypeId} {v : Value} {n : Nat} {xs : List Value} (h : w.ownsRow B e 1 v n xs) : Reads w v xs := by
  have hl : xs.length = n := by simpa using h.1
  rcases Nat.eq_zero_or_pos n with h0 | h0
  · subst h0
    obtain ⟨a, c, rfl⟩ := row_shape h
    exact .inl ⟨List.length_eq_zero_iff.1 hl, a, c, rfl⟩
  · obtain ⟨g, cap, rfl, _⟩ := h.form h0
    refine .inr ⟨g, cap, by rw [hl], by omega, fun i hi => ?_⟩
    rw [h.cellAt i (by omega), List.getElem?_eq_getElem hi]

theorem Reads.chg {M : Nat → Prop} {a b : World} {v : Value} {xs : List Value} (h : Reads a v xs) (k : Chg M a b) (hn : ∀ g, v.ownBlock = some g → ¬ M g) : Reads b v xs := by
  rcases h with h | ⟨g, cap, rfl, h0, hc⟩
  · exact .inl h
  · exact .inr ⟨g, cap, rfl, h0, fun i hi => k.cell (hc i hi) (hn g rfl)⟩

/-- One value in a new block of its own, ahead of an append. -/
theorem news_one (w : World) (x : Value) (t : TypeId) (n : Nat) (hn : n = w.heap.size) : ∀ j u, [x][j]? = some u → (w.alloc (.cells #[x] t)).cell? ((⟨n, 0, none⟩ : Addr).add j) = some u := by
  subst hn
  exact cell_one_new w x t

/-- An append at a step of a region that draws its order: as the kit's step_append_lies, but that nothing need be appended where the row is not empty. -/
theorem step_append_lie0 {P : Program} {w : World} {ops : Array Oper} {o : Oper} {a : Act} {K : Act → World → Prop} {Q : Exit → Act → World → Prop} {E : Prop} (hgd : o.guard = none) (s x : Operand) (t : TypeId)
    (ho : o.op = .call { callee := .builtin .append, args := #[s, x], argTypes := #[t, t] })
    (base : Nat) (e : TypeId) (i : TypeInfo) (z : Value) (size bytes : Nat) (ht : P.underlying t = some (.slice e)) (hi : P.info? e = some i) (hz : i.zero = some z)
    (hsize : i.size = size) (hby : i.bytes = bytes) (hzs : z.cells.size = size) (hsz : 0 < size)
    (v : Value) (n : Nat) (xs : List Value) (hs : a.eval s = v) (hown : w.ownsRow base e size v n xs)
    (ad : Addr) (m c : Nat) (news : List Value) (hx : a.eval x = .slice (some ad) m c) (hl : news.length = m * size) (hnews : ∀ j u, news[j]? = some u → w.cell? (ad.add j) = some u) (h1 : ∀ u ∈ news, u.oneCell' = true)
    (hm : 0 < n + m) (h63 : n + m ≤ maxLen) (hbytes : (n + m) * bytes ≤ 140737488355328) (hbase : base ≤ w.heap.size)
    (h : ∀ g cap w', w'.ownsRow base e size (.slice (some ⟨g, 0, none⟩) (n + m) cap) (n + m) (xs ++ news) → w.grownBy w' v.ownBlock → (v.ownBlock = some g ∨ g = w.heap.size) → g < w'.heap.size → K (a.put o.dst (.slice (some ⟨g, 0, none⟩) (n + m) cap)) w') :
    if Region.wanted o (yielded ops a.tmps) = true then Oper.wp P o a w K Q else E := by
  have hw : Region.wanted o (yielded ops a.tmps) = true := by simp [Region.wanted, hgd]
  rw [if_pos hw]
  obtain ⟨v', w', hr, h2, h3, _, h5⟩ := run_append_own_at (P := P) w base t o.type e i z size bytes ht hi hz hsize hby hzs hsz v n xs hown ad m c news hl hnews h1 h63 hbytes hbase
  obtain ⟨g, cap, rfl, _, hlt⟩ := h2.form hm
  unfold Oper.wp execOp
  simp only [ho, resolve, invoke, builtin, Sem.run_bind, Sem.run_pure, Result.andThen_ok, List.map_toArray, List.map_cons, List.map_nil, hs, hx, hr]
  refine h g cap w' h2 h3 ?_ hlt
  rcases h5 with h5 | h5
  · exact .inl (by rw [← h5]; rfl)
  · exact .inr (by simpa [Value.ownBlock] using h5)

/-- Each block of v belongs to t. -/
def Tagged (T : Nat → Nat) (v : Value) (t : Nat) : Prop := ∀ g, v.ownBlock = some g → T g = t
def upd (T : Nat → Nat) (g t : Nat) : Nat → Nat := fun b => if b = g then t else T b
theorem upd_self (T : Nat → Nat) (g t : Nat) : upd T g t g = t := if_pos rfl
theorem upd_other (T : Nat → Nat) {g b : Nat} (t : Nat) (h : b ≠ g) : upd T g t b = T b := if_neg h
/-- Another owner's block stays another's. -/
theorem upd_of (T : Nat → Nat) {g b t t' : Nat} (hb : T b = t') (hg : T g = 0 ∨ T g = t) (h0 : t' ≠ 0) (ht : t' ≠ t) : upd T g t b = t' := by
  by_cases e : b = g
  · subst e
    rcases hg with hg | hg
    · exact absurd (hb.symm.trans hg) h0
    · exact absurd (hb.symm.trans hg) ht
  · rw [upd_other T t e, hb]
theorem Tagged.upd {T : Nat → Nat} {v : Value} {g t t' : Nat} (h : Tagged T v t') (hg : T g = 0 ∨ T g = t) (h0 : t' ≠ 0) (ht : t' ≠ t) : Tagged (upd T g t) v t' :=
  fun b hb => upd_of T (h b hb) hg h0 ht

end Go.Proofs.Ytipmpeekfajlcaa
