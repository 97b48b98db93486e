/- What an object more, a name more and a scope more do to the program's scopes in memory. -/
import Derived.Test.YtipmpeekfajlcaaInsert
namespace Go.Proofs.Ytipmpeekfajlcaa
open Go.RowKit

theorem MapRep.congr {w : World} {m : Option Nat} {ns : List ByteArray} {os : List Int} {ob ob' : Nat → Nat} (h : MapRep w m ns os ob) (hl : ns.length = os.length) (hc : ∀ o ∈ os, ob' o.toNat = ob o.toNat) : MapRep w m ns os ob' := by
  rcases h with h | ⟨b, D, rfl, hm, hsz, hs⟩
  · exact .inl h
  · refine .inr ⟨b, D, rfl, hm, hsz, fun s => ⟨fun hin => ⟨((hs s).1 hin).1, ?_⟩, (hs s).2⟩⟩
    rw [((hs s).1 hin).2, hc _ (findI_mem s ns os hl hin)]

theorem row_keep {B : Nat} {T : Nat → Nat} {w w2 : World} {M : Nat → Prop} (k : Chg M w w2) {v : Value} {t e size n : Nat} {xs : List Value} (h : w.ownsRow B e size v n xs) (hT : Tagged T v t) (hM : ∀ b, M b → T b ≠ t) : w2.ownsRow B e size v n xs :=
  k.row h (fun g hg hm => hM g hm (hT g hg))

section
variable {B : Nat} {T : Nat → Nat} {w wa w1 : World} {r : Nat} {S : Sts} {la oa : Option Addr} {lc oc : Nat} {p : Pos}

/-- An object more. -/
theorem ImplRep.moreObj (h : ImplRep B T w r S la oa lc oc p) (hS : S.WF) (hchg : Chg (fun _ => False) w wa) {oN : Nat} {nm : ByteArray} {a : Addr} (hoN : w.heap.size ≤ oN) (hobj : wa.heap[oN]? = some (.cells (varCells nm a) 105 (0, 0)))
    (hgrow : wa.grownBy w1 (Value.slice oa S.homes.length oc).ownBlock) {g1 c1 : Nat} (hB : B ≤ w.heap.size)
    (hown : w1.ownsRow B 84 1 (.slice (some ⟨g1, 0, none⟩) (S.homes.length + 1) c1) (S.homes.length + 1) ((List.range S.homes.length).map (fun i => objV (p.ob i)) ++ [objV oN]))
    (hat : (Value.slice oa S.homes.length oc).ownBlock = some g1 ∨ g1 = wa.heap.size) :
    let w2 := w1.setCell ⟨r, 1, none⟩ (.slice (some ⟨g1, 0, none⟩) (S.homes.length + 1) c1)
    ImplRep B (upd (upd T g1 3) oN (7 + 4 * S.homes.length)) w2 r ⟨S.regs, S.homes ++ [-1]⟩ la (some ⟨g1, 0, none⟩) lc c1
        { p with ob := fun i => if i = S.homes.length then oN else p.ob i, oc := fun i => if i = S.homes.length then varCells nm a else p.oc i } ∧
      w2.heap[oN]? = some (.cells (varCells nm a) 105 (0, 0)) ∧ Chg (fun b => T b ≠ 0) w w2 ∧ Ext T (upd (upd T g1 3) oN (7 + 4 * S.homes.length)) w := by
  intro w2
  have hoa : oN < wa.heap.size := (Array.getElem?_eq_some_iff.1 hobj).1
  have hrs : r < w.heap.size := (h.fresh r (by rw [h.tr]; decide)).2
  have hz := hchg.size
  have hat' : T g1 = 3 ∧ g1 < w.heap.size ∨ w.heap.size ≤ g1 ∧ g1 = wa.heap.size := hat.imp (fun e => ⟨h.tob g1 e, (h.fresh g1 (by rw [h.tob g1 e]; decide)).2⟩) (fun e => ⟨by omega, e⟩)
  have hgo : g1 ≠ oN := by rcases hat' with e | e <;> omega
  have hgr : g1 ≠ r := by
    intro e
    subst e
    rcases hat' with e | e
    · have := h.tr; omega
    · omega
  have hor : oN ≠ r := by omega
  have hgz : T g1 = 0 ∨ T g1 = 3 := by
    rcases hat' with e | e
    · exact .inr e.1
    · exact .inl (Decidable.byContradiction fun e' => by have := (h.fresh g1 e').2; omega)
  have hoz : T oN = 0 := Decidable.byContradiction fun e' => by have := (h.fresh oN e').2; omega
  have hoz' : upd T g1 3 oN = 0 := by rw [upd_other _ _ (Ne.symm hgo)]; exact hoz
  have tagU : ∀ {b t' : Nat}, T b = t' → t' ≠ 0 → t' ≠ 3 → t' ≠ 7 + 4 * S.homes.length → upd (upd T g1 3) oN (7 + 4 * S.homes.length) b = t' := by
    intro b t' hb h0 h1 h2
    exact upd_of _ (upd_of T hb hgz h0 h1) (.inl hoz') h0 h2
  have hob : ∀ g, (Value.slice oa S.homes.length oc).ownBlock = some g → T g = 3 := h.tob
  have k1 : Chg (fun b => T b = 3) w w1 := (hchg.mono (fun _ f => f.elim)).grown hgrow (fun i hi => .inl (hob i hi))
  have k2 : Chg (fun b => b = r ∨ T b = 3) w w2 := (k1.mono (fun i e => .inl (.inr e))).setCell (p := ⟨r, 1, none⟩) (.inl (.inl rfl)) _
  have hM : ∀ {t : Nat}, t ≠ 1 → t ≠ 3 → ∀ b, (b = r ∨ T b = 3) → T b ≠ t := by
    intro t h1 h3 b hb e
    rcases hb with hb | hb
    · subst hb; rw [h.tr] at e; omega
    · omega
  have ho1 : w1.heap[oN]? = some (.cells (varCells nm a) 105 (0, 0)) := by
    rw [hgrow.block oN hoa (fun e => by have := hob oN e.symm; omega)]
    exact hobj
  have ho2 : w2.heap[oN]? = some (.cells (varCells nm a) 105 (0, 0)) := by
    rw [Below.heap_setCell _ _ _ oN hor]
    exact ho1
  have top1 : w1.heap[r]? = some (.cells #[.slice la S.regs.length lc, .slice oa S.homes.length oc] 60 (0, 0)) := k1.heapAt h.top (by rw [h.tr]; decide)
  have hob' : ∀ i, i < S.regs.length → ∀ o ∈ (S.reg i).objs, (if o.toNat = S.homes.length then oN else p.ob o.toNat) = p.ob o.toNat := by
    intro i hi o ho
    have := hS.objs i hi o ho
    rw [if_neg (by omega)]
  refine ⟨?_, ho2, k2.mono (fun i hi => .inl ?_), fun b hb => ?_⟩
  · refine { top := ?_, tr := tagU h.tr (by decide) (by decide) (by omega), lrow := row_keep k2 h.lrow h.tl (hM (by decide) (by decide)), tl := fun g hg => tagU (h.tl g hg) (by decide) (by decide) (by omega)
             orow := ?_, tob := ?_, sc := fun i hi => k2.heapAt (h.sc i hi) (fun e => hM (by omega) (by omega) _ e (h.ts i hi)), ts := fun i hi => tagU (h.ts i hi) (by omega) (by omega) (by omega)
             krow := fun i hi => row_keep k2 (h.krow i hi) (h.tk i hi) (hM (by omega) (by omega)), tk := fun i hi g hg => tagU (h.tk i hi g hg) (by omega) (by omega) (by omega)
             mrep := fun i hi => ((h.mrep i hi).chg k2 (fun b e hm => hM (by omega) (by omega) b hm (h.tm i hi b e))).congr (hS.len i hi) (hob' i hi)
             tm := fun i hi b e => tagU (h.tm i hi b e) (by omega) (by omega) (by omega), obj := ?_, tj := ?_, fresh := ?_ }
    · rw [heap_setCell_same w1 r 1 _ 60 _ top1]
      simp
    · have e1 : ((List.range (S.homes ++ [-1]).length).map fun i => objV (if i = S.homes.length then oN else p.ob i)) = (List.range S.homes.length).map (fun i => objV (p.ob i)) ++ [objV oN] := by
        simp only [List.length_append, List.length_singleton, List.range_succ, List.map_append, List.map_cons, List.map_nil, if_pos]
        congr 1
        apply List.map_congr_left
        intro i hi
        rw [List.mem_range] at hi
        rw [if_neg (by omega)]
      show w2.ownsRow B 84 1 (.slice (some ⟨g1, 0, none⟩) (S.homes ++ [-1]).length c1) (S.homes ++ [-1]).length ((List.range (S.homes ++ [-1]).length).map fun i => objV (if i = S.homes.length then oN else p.ob i))
      rw [e1]
      have k3 : Chg (fun b => b = r) w1 w2 := (Chg.refl (fun b => b = r) w1).setCell (p := ⟨r, 1, none⟩) (.inl rfl) _
      have := k3.row hown (fun g hg e => by cases hg; exact hgr e)
      simpa using this
    · intro g hg
      have e' : g1 = g := by simpa [Value.ownBlock] using hg
      subst e'
      rw [upd_other _ _ hgo]
      exact upd_self _ _ _
    · intro o ho
      by_cases e : o = S.homes.length
      · subst e
        simp only [if_pos]
        refine ⟨ho2, ?_⟩
        simp [varCells, parA_none]
      · have ho' : o < S.homes.length := by simp at ho; omega
        simp only [if_neg e]
        refine ⟨k2.heapAt (h.obj o ho').1 (fun e' => hM (by omega) (by omega) _ e' (h.tj o ho')), ?_⟩
        rw [(h.obj o ho').2, List.getD_eq_getElem?_getD, List.getD_eq_getElem?_getD, List.getElem?_append_left ho']
    · intro o ho
      by_cases e : o = S.homes.length
      · subst e
        simp only [if_pos]
        exact upd_self _ _ _
      · have ho' : o < S.homes.length := by simp at ho; omega
        simp only [if_neg e]
        exact tagU (h.tj o ho') (by omega) (by omega) (by omega)
    · intro b hb
      have hs : w2.heap.size = w1.heap.size := by simp [w2, World.setCell]
      rw [hs]
      have := k1.size
      by_cases e : b = oN
      · subst e
        exact ⟨by omega, (Array.getElem?_eq_some_iff.1 ho1).1⟩
      · rw [upd_other _ _ e] at hb
        by_cases e' : b = g1
        · subst e'
          exact hown.lt b rfl
        · rw [upd_other _ _ e'] at hb
          have := h.fresh b hb
          exact ⟨this.1, by omega⟩
  · rcases hi with hi | hi
    · subst hi; rw [h.tr]; decide
    · rw [hi]; decide
  · by_cases e : b = oN
    · subst e; exact .inr hoN
    · rw [upd_other _ _ e] at hb
      by_cases e' : b = g1
      · subst e'
        rcases hat' with h' | h'
        · exact .inl (by omega)
        · exact .inr h'.1
      · rw [upd_other _ _ e'] at hb
        exact .inl hb
end
end Go.Proofs.Ytipmpeekfajlcaa
