/- The walk of the reference's inserted: a new object, put into a scope under its name where none stands. -/
import Derived.Test.YtipmpeekfajlcaaMade
import Derived.Deep.DeepCutAuto
import Derived.Deep.DrawnRows
import Derived.Test.YtipmpeekfajlcaaLate
namespace Go.Proofs.Ytipmpeekfajlcaa
open Go.RowKit

theorem Sts.WF.moreHomes {S : Sts} (h : S.WF) : (Sts.mk S.regs (S.homes ++ [-1])).WF := by
  refine ⟨h.regs30, h.par, h.len, ?_, ?_, h.nodup, ?_⟩
  · intro i hi
    have := h.few i hi
    simp only [Sts.reg_homes, List.length_append, List.length_singleton]
    omega
  · intro i hi o ho
    have := h.objs i hi o ho
    simp only [List.length_append, List.length_singleton]
    omega
  · intro o ho
    rcases List.mem_append.1 ho with ho | ho
    · exact h.homes o ho
    · simp at ho
      subst ho
      show (-1 : Int) ≤ -1 ∧ (-1 : Int) < S.regs.length
      omega

section
variable {B : Nat} {T : Nat → Nat} {w wa w1 : World} {r : Nat} {S : Sts} {lv hv : Value} {nv ov : Nat → Value}

/-- An object more. -/
theorem SpecRep.moreHomes (h : SpecRep B T w r S lv hv nv ov) (hchg : Chg (fun _ => False) w wa) (hgrow : wa.grownBy w1 hv.ownBlock) {g1 cap1 : Nat} {x : Int}
    (hown : w1.ownsRow B 2 1 (.slice (some ⟨g1, 0, none⟩) (S.homes.length + 1) cap1) (S.homes.length + 1) (S.homes.map (.int .i64) ++ [.int .i64 x]))
    (hat : hv.ownBlock = some g1 ∨ g1 = wa.heap.size) (hlt : g1 < w1.heap.size) :
    SpecRep B (upd T g1 3) (w1.setCell ⟨r, 1, none⟩ (.slice (some ⟨g1, 0, none⟩) (S.homes.length + 1) cap1)) r ⟨S.regs, S.homes ++ [x]⟩ lv (.slice (some ⟨g1, 0, none⟩) (S.homes.length + 1) cap1) nv ov ∧
      Chg (fun b => T b ≠ 0) w (w1.setCell ⟨r, 1, none⟩ (.slice (some ⟨g1, 0, none⟩) (S.homes.length + 1) cap1)) ∧ Ext T (upd T g1 3) w := by
  have hat' : hv.ownBlock = some g1 ∨ w.heap.size ≤ g1 := hat.imp id (fun e => by have := hchg.size; omega)
  have hg := tag_new h.fresh h.th hat'
  have hrs : r < w.heap.size := h.fresh r (by rw [h.tr]; decide)
  have hrl : hv.ownBlock ≠ some r := fun e => by have := h.th r e; rw [h.tr] at this; cases this
  have hgr : g1 ≠ r := by
    intro e
    subst e
    rcases hat' with h' | h'
    · exact hrl h'
    · omega
  have hc1 : Chg (fun b => hv.ownBlock = some b) w w1 := (hchg.mono (fun _ f => f.elim)).grown hgrow (fun i hi => .inl hi)
  have hc2 : Chg (fun b => b = r ∨ hv.ownBlock = some b) w (w1.setCell ⟨r, 1, none⟩ (.slice (some ⟨g1, 0, none⟩) (S.homes.length + 1) cap1)) := (hc1.mono (fun i hi => .inl (.inr hi))).setCell (.inl (.inl rfl)) _
  have hM : ∀ b, (b = r ∨ hv.ownBlock = some b) → b = r ∨ T b = 3 := fun b hb => hb.imp id (fun e => h.th b e)
  have htop1 : w1.heap[r]? = some (.cells #[lv, hv] 50 (0, 0)) := hc1.heapAt h.top hrl
  refine ⟨?_, hc2.mono (fun i hi => .inl ?_), Ext.upd (hat'.imp (fun e => h.th g1 e) id) (by decide)⟩
  · exact { top := by rw [heap_setCell_same w1 r 1 _ 50 _ htop1]; rfl
            tr := upd_of T h.tr hg (by decide) (by decide), br := h.br
            lrow := h.keep hc2 hM h.lrow h.tl (by decide) (by decide), tl := h.tl.upd hg (by decide) (by decide)
            hrow := by
              have e1 := ((Chg.refl (fun b => b = r) w1).setCell (p := ⟨r, 1, none⟩) (.inl rfl) (.slice (some ⟨g1, 0, none⟩) (S.homes.length + 1) cap1)).row hown (fun g e => by cases e; exact hgr)
              simpa using e1
            th := fun g e => by cases e; exact upd_self _ _ _
            nrow := fun i hi => h.keep hc2 hM (h.nrow i hi) (h.tn i hi) (by omega) (by omega), tn := fun i hi => (h.tn i hi).upd hg (by omega) (by omega)
            orow := fun i hi => h.keep hc2 hM (h.orow i hi) (h.tob i hi) (by omega) (by omega), tob := fun i hi => (h.tob i hi).upd hg (by omega) (by omega)
            fresh := fun b hb => by
              have hs : (w1.setCell ⟨r, 1, none⟩ (.slice (some ⟨g1, 0, none⟩) (S.homes.length + 1) cap1)).heap.size = w1.heap.size := by simp [World.setCell]
              rw [hs]
              by_cases e : b = g1
              · subst e; omega
              · rw [upd_other T 3 e] at hb
                have := h.fresh b hb
                have := hc1.size
                omega }
  · rcases hi with hi | hi
    · subst hi; rw [h.tr]; decide
    · rw [h.th i hi]; decide

/-- The last object's home is laid. -/
theorem SpecRep.setHome (h : SpecRep B T w r S lv hv nv ov) {g cap : Nat} (hg : hv = .slice (some ⟨g, 0, none⟩) S.homes.length cap) (n : Nat) (x : Int) :
    SpecRep B T (w.setCell ⟨g, n, none⟩ (.int .i64 x)) r ⟨S.regs, S.homes.set n x⟩ lv hv nv ov ∧ Chg (fun b => T b ≠ 0) w (w.setCell ⟨g, n, none⟩ (.int .i64 x)) := by
  subst hg
  have hTg : T g = 3 := h.th g rfl
  have hc : Chg (fun b => b = g) w (w.setCell ⟨g, n, none⟩ (.int .i64 x)) := (Chg.refl (fun b => b = g) w).setCell (p := ⟨g, n, none⟩) (.inl rfl) _
  have hM : ∀ b, b = g → b = r ∨ T b = 3 := fun b hb => .inr (hb ▸ hTg)
  refine ⟨?_, hc.mono (fun i hi => .inl (by rw [hi, hTg]; decide))⟩
  exact { top := hc.heapAt h.top (fun e => by rw [← e, h.tr] at hTg; cases hTg), tr := h.tr, br := h.br
          lrow := h.keep hc hM h.lrow h.tl (by decide) (by decide), tl := h.tl
          hrow := by
            have := (h.hrow.stored n (.int .i64 x)).1
            rw [← List.map_set] at this
            simpa using this
          th := h.th
          nrow := fun i hi => h.keep hc hM (h.nrow i hi) (h.tn i hi) (by omega) (by omega), tn := h.tn
          orow := fun i hi => h.keep hc hM (h.orow i hi) (h.tob i hi) (by omega) (by omega), tob := h.tob
          fresh := fun b hb => by simpa [World.setCell] using h.fresh b hb }
end

theorem SpecRep.home_ne {B : Nat} {T : Nat → Nat} {w wa : World} {r g1 : Nat} {S : Sts} {lv hv : Value} {nv ov : Nat → Value} (h : SpecRep B T w r S lv hv nv ov) (hchg : Chg (fun _ => False) w wa) (hat : hv.ownBlock = some g1 ∨ g1 = wa.heap.size) : g1 ≠ r := by
  intro e
  subst e
  rcases hat with h' | h'
  · have := h.th g1 h'
    rw [h.tr] at this
    cases this
  · have := h.fresh g1 (by rw [h.tr]; decide)
    have := hchg.size
    omega
theorem home_cell (hs : List Int) : (hs.map (Value.int .i64) ++ [Value.int .i64 (-1)])[hs.length]? = some (.int .i64 (-1)) := by
  simp

theorem news_of_cell {W : World} {n : Nat} {x : Value} (h : W.cell? ⟨n, 0, none⟩ = some x) : ∀ j u, [x][j]? = some u → W.cell? ((⟨n, 0, none⟩ : Addr).add j) = some u := by
  intro j u hj
  match j, hj with
  | 0, hj =>
    simp at hj
    subst hj
    simpa [Addr.add] using h
  | j + 1, hj => simp at hj

/-- The cells that an append to a row of another block leaves as they were. -/
theorem held5 {W w1 : World} {row : Option Nat} {r g j : Nat} {v0 v1 v2 : Value} (hg : W.grownBy w1 row) (hr : row ≠ some r) (hgg : row ≠ some g)
    (h : W.cell? ⟨r, 0, none⟩ = some v0 ∧ W.cell? ⟨g, j + 1, none⟩ = some v1 ∧ W.cell? ⟨g, j + 2, none⟩ = some v2 ∧ W.frozen? ⟨g, j + 1, none⟩ = false ∧ W.frozen? ⟨g, j + 2, none⟩ = false) :
    w1.cell? ⟨r, 0, none⟩ = some v0 ∧ w1.cell? ⟨g, j + 1, none⟩ = some v1 ∧ w1.cell? ⟨g, j + 2, none⟩ = some v2 ∧ w1.frozen? ⟨g, j + 1, none⟩ = false ∧ w1.frozen? ⟨g, j + 2, none⟩ = false := by
  obtain ⟨h0, h1, h2, h3, h4⟩ := h
  have hl : g < W.heap.size := World.block_lt_of_cell? W _ h1
  exact ⟨hg.cell h0 hr.symm, hg.cell h1 hgg.symm, hg.cell h2 hgg.symm, (hg.frozen_far ⟨g, j + 1, none⟩ hl hgg.symm).trans h3, (hg.frozen_far ⟨g, j + 2, none⟩ hl hgg.symm).trans h4⟩

theorem _root_.Go.World.ownsRow.chg' {a b : World} {B e size n : Nat} {v v' : Value} {xs : List Value} (ho : a.ownsRow B e size v n xs) (h : Chg (fun i => v'.ownBlock = some i) a b) (hn : ∀ g, v.ownBlock = some g → v'.ownBlock ≠ some g) : b.ownsRow B e size v n xs := h.row ho hn
theorem far_ne {v : Value} {w : World} {n r g : Nat} (h : ∀ b, v.ownBlock = some b → b < w.heap.size ∧ b ≠ r ∧ b ≠ g) (hn : w.heap.size ≤ n) : some n ≠ v.ownBlock := fun e => by
  have := (h n e.symm).1
  omega

theorem regF_set (S : Sts) (hs : List Int) (k : Nat) (hk : k < S.regs.length) (x : ByteArray) (o : Int) (nv ov : Nat → Value) (v1 v2 : Value) (j : Nat) :
    regF ⟨S.regs.set k { S.reg k with names := (S.reg k).names ++ [x], objs := (S.reg k).objs ++ [o] }, hs⟩ (fun i => if i = k then v1 else nv i) (fun i => if i = k then v2 else ov i) j =
      if j = k * 3 + 1 then v1 else if j = k * 3 + 2 then v2 else regF S nv ov j := by
  have hp : ∀ i, ((Sts.mk (S.regs.set k { S.reg k with names := (S.reg k).names ++ [x], objs := (S.reg k).objs ++ [o] }) hs).reg i).par = (S.reg i).par := by
    intro i
    by_cases e : k = i
    · subst e; rw [Sts.reg_set_self _ _ _ _ hk]
    · rw [Sts.reg_set_other _ _ _ _ _ e]
  unfold regF
  rw [hp]
  by_cases e1 : j = k * 3 + 1
  · have d : j / 3 = k := by omega
    rw [if_neg (by omega), if_pos (by omega), if_pos e1, d]
    simp
  · by_cases e2 : j = k * 3 + 2
    · have d : j / 3 = k := by omega
      rw [if_neg (by omega), if_neg (by omega), if_neg e1, if_pos e2, d]
      simp
    · rw [if_neg e1, if_neg e2]
      by_cases m0 : j % 3 = 0
      · simp [m0]
      · by_cases m1 : j % 3 = 1
        · have d : j / 3 ≠ k := by omega
          simp [m1, d]
        · have d : j / 3 ≠ k := by omega
          simp [m0, m1, d]

section
variable {B : Nat} {T : Nat → Nat} {w wz : World} {r : Nat} {S : Sts} {lv hv : Value} {nv ov : Nat → Value}

/-- A name more in scope k, and its object: both rows have been appended to, the two slices are stored. -/
theorem SpecRep.moreNames (h : SpecRep B T w r S lv hv nv ov) {k g capl gN capN gO capO : Nat} (hk : k < S.regs.length) (hlv : lv = .slice (some ⟨g, 0, none⟩) S.regs.length capl) {x : ByteArray} {o : Int} (hlen : (S.reg k).names.length = (S.reg k).objs.length)
    (hz : Chg (fun b => (nv k).ownBlock = some b ∨ (ov k).ownBlock = some b) w wz)
    (hN : wz.ownsRow B 9 1 (.slice (some ⟨gN, 0, none⟩) ((S.reg k).names.length + 1) capN) ((S.reg k).names.length + 1) ((S.reg k).names.map .string ++ [.string x]))
    (hO : wz.ownsRow B 2 1 (.slice (some ⟨gO, 0, none⟩) ((S.reg k).objs.length + 1) capO) ((S.reg k).objs.length + 1) ((S.reg k).objs.map (.int .i64) ++ [.int .i64 o]))
    (aN : (nv k).ownBlock = some gN ∨ w.heap.size ≤ gN) (aO : (ov k).ownBlock = some gO ∨ w.heap.size ≤ gO) :
    let w2 := (wz.setCell ⟨g, k * 3 + 1, none⟩ (.slice (some ⟨gN, 0, none⟩) ((S.reg k).names.length + 1) capN)).setCell ⟨g, k * 3 + 2, none⟩ (.slice (some ⟨gO, 0, none⟩) ((S.reg k).objs.length + 1) capO)
    (∃ T' nv' ov', SpecRep B T' w2 r ⟨S.regs.set k { S.reg k with names := (S.reg k).names ++ [x], objs := (S.reg k).objs ++ [o] }, S.homes⟩ lv hv nv' ov' ∧ Chg (fun b => T b ≠ 0) w w2 ∧ Ext T T' w) := by
  intro w2
  subst hlv
  have tN := tag_new h.fresh (h.tn k hk) aN
  have tO := tag_new h.fresh (h.tob k hk) aO
  have hne : gN ≠ gO := by
    intro e
    subst e
    rcases hN.2 with ⟨h', _⟩ | ⟨_, _, _, h', _, h1, _⟩
    · cases h'
    · cases h'
      rcases hO.2 with ⟨h', _⟩ | ⟨_, _, _, h', _, h2, _⟩
      · cases h'
      · cases h'
        rw [h1] at h2
        cases h2
  have hTg : T g = 2 := h.tl g rfl
  have gNg : gN ≠ g := by
    intro e
    subst e
    rcases tN with e | e <;> rw [hTg] at e <;> omega
  have gOg : gO ≠ g := by
    intro e
    subst e
    rcases tO with e | e <;> rw [hTg] at e <;> omega
  have hMz : ∀ b, ((nv k).ownBlock = some b ∨ (ov k).ownBlock = some b) → T b = 4 + 2 * k ∨ T b = 5 + 2 * k := fun b hb => hb.imp (fun e => h.tn k hk b e) (fun e => h.tob k hk b e)
  have hc2 : Chg (fun b => b = g ∨ T b = 4 + 2 * k ∨ T b = 5 + 2 * k) w w2 :=
    (((hz.mono (fun i hi => .inl (.inr (hMz i hi)))).setCell (p := ⟨g, k * 3 + 1, none⟩) (.inl (.inl rfl)) _)).setCell (p := ⟨g, k * 3 + 2, none⟩) (.inl (.inl rfl)) _
  have keep : ∀ {v : Value} {t' e size n : Nat} {xs : List Value}, w.ownsRow B e size v n xs → Tagged T v t' → t' ≠ 2 → t' ≠ 4 + 2 * k → t' ≠ 5 + 2 * k → w2.ownsRow B e size v n xs := by
    intro v t' e size n xs hv' hT h1 h2 h3
    refine hc2.row hv' (fun b hb hm => ?_)
    have e1 := hT b hb
    rcases hm with hm | hm | hm
    · subst hm; omega
    · omega
    · omega
  have cz : Chg (fun b => b = g) wz w2 := ((Chg.refl (fun b => b = g) wz).setCell (p := ⟨g, k * 3 + 1, none⟩) (.inl rfl) _).setCell (p := ⟨g, k * 3 + 2, none⟩) (.inl rfl) _
  have tagU : ∀ {b t' : Nat}, T b = t' → t' ≠ 0 → t' ≠ 4 + 2 * k → t' ≠ 5 + 2 * k → upd (upd T gN (4 + 2 * k)) gO (5 + 2 * k) b = t' := by
    intro b t' hb h0 h1 h2
    have e1 : upd T gN (4 + 2 * k) b = t' := upd_of T hb tN h0 h1
    refine upd_of _ e1 ?_ h0 h2
    rcases tO with e | e
    · refine .inl ?_
      rw [upd_other T _ (Ne.symm hne)]; exact e
    · refine .inr ?_
      rw [upd_other T _ (Ne.symm hne)]; exact e
  refine ⟨upd (upd T gN (4 + 2 * k)) gO (5 + 2 * k), fun i => if i = k then .slice (some ⟨gN, 0, none⟩) ((S.reg k).names.length + 1) capN else nv i, fun i => if i = k then .slice (some ⟨gO, 0, none⟩) ((S.reg k).objs.length + 1) capO else ov i, ?_, hc2.mono (fun i hi => .inl ?_), ?_⟩
  · refine { top := hc2.heapAt h.top ?_, tr := tagU h.tr (by decide) (by omega) (by omega), br := h.br
             lrow := ?_, tl := fun b hb => tagU (h.tl b hb) (by decide) (by omega) (by omega)
             hrow := keep h.hrow h.th (by decide) (by omega) (by omega), th := fun b hb => tagU (h.th b hb) (by decide) (by omega) (by omega)
             nrow := ?_, tn := ?_, orow := ?_, tob := ?_, fresh := ?_ }
    · intro hm
      have := h.tr
      rcases hm with hm | hm | hm
      · subst hm; omega
      · omega
      · omega
    · have l1 := hz.row h.lrow (fun b hb hm => by
        have e1 := h.tl b hb
        have := hMz b hm
        omega)
      have l2 := (l1.stored (k * 3 + 1) (.slice (some ⟨gN, 0, none⟩) ((S.reg k).names.length + 1) capN)).1
      have l3 := (l2.stored (k * 3 + 2) (.slice (some ⟨gO, 0, none⟩) ((S.reg k).objs.length + 1) capO)).1
      show w2.ownsRow B 72 3 _ (S.regs.set k _).length _
      rw [List.length_set]
      have e3 : ((List.range (S.regs.length * 3)).map (regF ⟨S.regs.set k { S.reg k with names := (S.reg k).names ++ [x], objs := (S.reg k).objs ++ [o] }, S.homes⟩ (fun i => if i = k then .slice (some ⟨gN, 0, none⟩) ((S.reg k).names.length + 1) capN else nv i) (fun i => if i = k then .slice (some ⟨gO, 0, none⟩) ((S.reg k).objs.length + 1) capO else ov i))) =
          (((List.range (S.regs.length * 3)).map (regF S nv ov)).set (k * 3 + 1) (.slice (some ⟨gN, 0, none⟩) ((S.reg k).names.length + 1) capN)).set (k * 3 + 2) (.slice (some ⟨gO, 0, none⟩) ((S.reg k).objs.length + 1) capO) := by
        apply List.ext_getElem
        · simp
        · intro j h1 h2
          simp only [List.length_map, List.length_range] at h1
          rw [List.getElem_map, List.getElem_range, regF_set _ _ _ hk, List.getElem_set, List.getElem_set]
          by_cases e1 : j = k * 3 + 1
          · rw [if_pos e1, if_neg (by omega), if_pos e1.symm]
          · rw [if_neg e1]
            by_cases e2 : j = k * 3 + 2
            · rw [if_pos e2, if_pos e2.symm]
            · rw [if_neg e2, if_neg (fun e => e2 e.symm), if_neg (fun e => e1 e.symm), List.getElem_map, List.getElem_range]
      rw [e3]
      exact l3
    · intro i hi
      have hi' : i < S.regs.length := by simpa using hi
      by_cases e : i = k
      · subst e
        rw [Sts.reg_set_self _ _ _ _ hk]
        simp only [if_pos]
        have := cz.row hN (fun b hb => by cases hb; exact gNg)
        simpa using this
      · rw [Sts.reg_set_other _ _ _ _ _ (fun e' => e e'.symm)]
        simp only [if_neg e]
        exact keep (h.nrow i hi') (h.tn i hi') (by omega) (by omega) (by omega)
    · intro i hi
      have hi' : i < S.regs.length := by simpa using hi
      by_cases e : i = k
      · subst e
        simp only [if_pos]
        intro b hb
        cases hb
        rw [upd_other _ _ hne, upd_self]
      · simp only [if_neg e]
        exact fun b hb => tagU (h.tn i hi' b hb) (by omega) (by omega) (by omega)
    · intro i hi
      have hi' : i < S.regs.length := by simpa using hi
      by_cases e : i = k
      · subst e
        rw [Sts.reg_set_self _ _ _ _ hk]
        simp only [if_pos]
        have := cz.row hO (fun b hb => by cases hb; exact gOg)
        simpa using this
      · rw [Sts.reg_set_other _ _ _ _ _ (fun e' => e e'.symm)]
        simp only [if_neg e]
        exact keep (h.orow i hi') (h.tob i hi') (by omega) (by omega) (by omega)
    · intro i hi
      have hi' : i < S.regs.length := by simpa using hi
      by_cases e : i = k
      · subst e
        simp only [if_pos]
        intro b hb
        cases hb
        exact upd_self _ _ _
      · simp only [if_neg e]
        exact fun b hb => tagU (h.tob i hi' b hb) (by omega) (by omega) (by omega)
    · intro b hb
      have hs : w2.heap.size = wz.heap.size := by simp [w2, World.setCell]
      rw [hs]
      by_cases e : b = gO
      · subst e; exact (hO.lt _ rfl).2
      · rw [upd_other _ _ e] at hb
        by_cases e' : b = gN
        · subst e'; exact (hN.lt _ rfl).2
        · rw [upd_other _ _ e'] at hb
          have := h.fresh b hb
          have := hz.size
          omega
  · rcases hi with hi | hi | hi
    · subst hi; omega
    · omega
    · omega
  · have x1 : Ext T (upd T gN (4 + 2 * k)) w := Ext.upd (aN.imp (fun e => h.tn k hk gN e) id) (by omega)
    refine x1.trans (Ext.upd (w := w) ?_ (by omega)) (Nat.le_refl _)
    rcases aO with e | e
    · refine .inl ?_
      rw [upd_other T _ (Ne.symm hne)]
      exact h.tob k hk gO e
    · exact .inr e
end

/-- What inserted gives. -/
def InsPost (B : Nat) (T : Nat → Nat) (w : World) (r : Nat) (S : Sts) (k : Nat) (x : ByteArray) (e : Ending) (w' : World) : Prop :=
  e = .returned (.int .i64 (S.old k x)) ∧ ∃ T', SpecAt B T' w' r (S.insert k x) ∧ Chg (fun b => T b ≠ 0) w w' ∧ Ext T T' w

theorem find_as {B : Nat} {T : Nat → Nat} {w : World} {r : Nat} {S : Sts} (h : SpecAt B T w r S) (hS : S.WF) (hm : S.homes.length ≤ 1000) (k : Nat) (hk : k < S.regs.length) (x : ByteArray) (f : Int) (hf : findI (S.reg k).names (S.reg k).objs x = f) :
    Calls Try.prog 28 #[.pointer (some ⟨r, 0, none⟩), .int .i64 k, .string x] w fun e w' => e = .returned (.int .i64 f) ∧ w = w' := by
  rw [← hf]
  exact find_any h hS hm k hk x

set_option maxHeartbeats 4000000 in
set_option maxRecDepth 100000 in
theorem inserted_old {B : Nat} {T : Nat → Nat} {w : World} {r : Nat} {S : Sts} (h : SpecAt B T w r S) (hS : S.WF) (hB : B ≤ w.heap.size) (hm : S.homes.length ≤ 900) (k : Nat) (hk : k < S.regs.length) (x : ByteArray) (hx : 0 ≤ findI (S.reg k).names (S.reg k).objs x) :
    Calls Try.prog 27 #[.pointer (some ⟨r, 0, none⟩), .int .i64 k, .string x] w (InsPost B T w r S k x) := by
  obtain ⟨lv, hv, nv, ov, h⟩ := h
  obtain ⟨a, cap, rfl⟩ := row_shape h.hrow
  have c1 := h.cell1
  have hrs : r < w.heap.size := h.fresh r (by rw [h.tr]; decide)
  obtain ⟨i0, hi, hz0, hz1, hz2⟩ := info_parts info2
  have HS := Lib.hid h
  obtain ⟨f, hf⟩ : ∃ f, findI (S.reg k).names (S.reg k).objs x = f := ⟨_, rfl⟩
  have hE : (S.old k x = f) ∧ S.insert k x = ⟨S.regs, S.homes ++ [-1]⟩ := by
    unfold Sts.old Sts.insert
    rw [if_pos hx, if_pos hx]
    exact ⟨hf, rfl⟩
  rw [hf] at hx
  have HF := Lib.hid hf
  have HE := Lib.hid hE
  clear h hf hE
  go_enter Try.func27, Try.ntmps27
  go_wp2_with (first
    | (at_builtin; refine wpList_append_lies _ rfl _ _ 48 rfl B 2 i0 (.int .i64 0) 1 8 Try.underlying48 hi hz0 hz1 hz2 rfl (by omega) (.slice a S.homes.length cap) _ _ rfl (HS.out.hrow.alloc _) ⟨w.heap.size, 0, none⟩ 1 1 [.int .i64 (-1)] rfl rfl (news_one _ _ _ _ rfl) (by simp [Value.oneCell']) (by omega) (by unfold maxLen; omega) (by omega) (by simp; omega) _ rfl ?_; intro g1 cap1 w1 hown1 hgrow1 hat1 hlt1; have ht1 := HS.out.top_far ((Chg.refl _ _).alloc _) hgrow1 HS.out.th (by decide); have c2 := cell_of_row w1 r 1 _ 50 (0, 0) ht1; have f1 := frozen_of_row w1 r 1 _ 50 ht1; have HT1 := Lib.hid ht1; have HM := Lib.hid (HS.out.moreHomes (x := -1) ((Chg.refl _ _).alloc _) hgrow1 hown1 hat1 hlt1); clear ht1 hown1 hgrow1 hat1 hlt1)
    | (go_at_call 28; refine (find_as (S := ⟨S.regs, S.homes ++ [-1]⟩) ⟨_, _, _, _, HM.out.1⟩ hS.moreHomes (by simp; omega) k hk x f HF.out).mono ?_; rintro e w' ⟨rfl, rfl⟩))
  go_ret
  exact ⟨ret_i64 HE.out.1.symm, by rw [HE.out.2]; exact ⟨_, ⟨_, _, _, _, HM.out.1⟩, HM.out.2.1, HM.out.2.2⟩⟩

/-- The new object is there, and its home; the scope's names are as they were. -/
def InsAt (B : Nat) (T : Nat → Nat) (w wx : World) (r : Nat) (S : Sts) (lv : Value) (nv ov : Nat → Value) (k : Nat) : Prop :=
  ∃ T' hv', SpecRep B T' wx r ⟨S.regs, S.homes ++ [(k : Int)]⟩ lv hv' nv ov ∧ Chg (fun b => T b ≠ 0) w wx ∧ Ext T T' w

theorem ins_fin {B : Nat} {T T' : Nat → Nat} {w wc wN wO : World} {r g capl k : Nat} {S : Sts} {hv' : Value} {nv ov : Nat → Value} {na oa : Option Addr} {nc oc gN capN gO capO : Nat} {x : ByteArray}
    (h : SpecRep B T' wc r ⟨S.regs, S.homes ++ [(k : Int)]⟩ (.slice (some ⟨g, 0, none⟩) S.regs.length capl) hv' nv ov) (hk : k < S.regs.length) (hlen : (S.reg k).names.length = (S.reg k).objs.length)
    (hn : nv k = .slice na (S.reg k).names.length nc) (ho : ov k = .slice oa (S.reg k).objs.length oc)
    (hcN : Chg (fun b => (Value.slice na (S.reg k).names.length nc).ownBlock = some b) wc wN) (hcO : Chg (fun b => (Value.slice oa (S.reg k).objs.length oc).ownBlock = some b) wN wO)
    (hN : wN.ownsRow B 9 1 (.slice (some ⟨gN, 0, none⟩) ((S.reg k).names.length + 1) capN) ((S.reg k).names.length + 1) ((S.reg k).names.map .string ++ [.string x]))
    (hO : wO.ownsRow B 2 1 (.slice (some ⟨gO, 0, none⟩) ((S.reg k).objs.length + 1) capO) ((S.reg k).objs.length + 1) ((S.reg k).objs.map (.int .i64) ++ [.int .i64 (S.homes.length : Int)]))
    (aN : (Value.slice na (S.reg k).names.length nc).ownBlock = some gN ∨ wc.heap.size ≤ gN) (aO : (Value.slice oa (S.reg k).objs.length oc).ownBlock = some gO ∨ wc.heap.size ≤ gO)
    (hch : Chg (fun b => T b ≠ 0) w wc) (hx : Ext T T' w) (hE : S.insert k x = ⟨S.regs.set k { S.reg k with names := (S.reg k).names ++ [x], objs := (S.reg k).objs ++ [(S.homes.length : Int)] }, S.homes ++ [(k : Int)]⟩) :
    ∃ T'', SpecAt B T'' ((wO.setCell ⟨g, k * 3 + 1, none⟩ (.slice (some ⟨gN, 0, none⟩) ((S.reg k).names.length + 1) capN)).setCell ⟨g, k * 3 + 2, none⟩ (.slice (some ⟨gO, 0, none⟩) ((S.reg k).objs.length + 1) capO)) r (S.insert k x) ∧
      Chg (fun b => T b ≠ 0) w ((wO.setCell ⟨g, k * 3 + 1, none⟩ (.slice (some ⟨gN, 0, none⟩) ((S.reg k).names.length + 1) capN)).setCell ⟨g, k * 3 + 2, none⟩ (.slice (some ⟨gO, 0, none⟩) ((S.reg k).objs.length + 1) capO)) ∧ Ext T T'' w := by
  have tn := h.tn k hk
  have tob := h.tob k hk
  rw [hn] at tn
  rw [ho] at tob
  have hne : (Value.slice oa (S.reg k).objs.length oc).ownBlock ≠ some gN := by
    intro e
    have e1 := tob gN e
    rcases aN with e2 | e2
    · have := tn gN e2
      omega
    · have := h.fresh gN (by omega)
      omega
  have hz : Chg (fun b => (nv k).ownBlock = some b ∨ (ov k).ownBlock = some b) wc wO := by
    rw [hn, ho]
    have h1 : Chg (fun b => (Value.slice na (S.reg k).names.length nc).ownBlock = some b ∨ (Value.slice oa (S.reg k).objs.length oc).ownBlock = some b) wc wN := hcN.mono (fun _ e => .inl (.inl e))
    have h2 : Chg (fun b => (Value.slice na (S.reg k).names.length nc).ownBlock = some b ∨ (Value.slice oa (S.reg k).objs.length oc).ownBlock = some b) wN wO := hcO.mono (fun _ e => .inl (.inr e))
    exact h1.trans h2 (fun _ e => .inl e)
  have hN' := hcO.row hN (fun b hb hm => by cases hb; exact hne hm)
  obtain ⟨T2, nv2, ov2, f1, f2, f3⟩ := h.moreNames (k := k) (x := x) (o := (S.homes.length : Int)) hk rfl hlen hz hN' hO (by rw [hn]; exact aN) (by rw [ho]; exact aO)
  rw [hE]
  exact ⟨T2, ⟨_, _, _, _, f1⟩, hch.trans f2 hx, hx.trans f3 hch.size⟩

set_option maxHeartbeats 4000000 in
set_option maxRecDepth 100000 in
theorem inserted_new {B : Nat} {T : Nat → Nat} {w : World} {r : Nat} {S : Sts} (h : SpecAt B T w r S) (hS : S.WF) (hB : B ≤ w.heap.size) (hm : S.homes.length ≤ 900) (k : Nat) (hk : k < S.regs.length) (x : ByteArray) (hx : findI (S.reg k).names (S.reg k).objs x < 0) :
    Calls Try.prog 27 #[.pointer (some ⟨r, 0, none⟩), .int .i64 k, .string x] w (InsPost B T w r S k x) := by
  obtain ⟨lv, hv, nv, ov, h⟩ := h
  obtain ⟨a, cap, rfl⟩ := row_shape h.hrow
  have c1 := h.cell1
  have hrs : r < w.heap.size := h.fresh r (by rw [h.tr]; decide)
  obtain ⟨i0, hi, hz0, hz1, hz2⟩ := info_parts info2
  have HS := Lib.hid h
  obtain ⟨f, hf⟩ : ∃ f, findI (S.reg k).names (S.reg k).objs x = f := ⟨_, rfl⟩
  have hE : (S.old k x = -1) ∧ S.insert k x = ⟨S.regs.set k { S.reg k with names := (S.reg k).names ++ [x], objs := (S.reg k).objs ++ [(S.homes.length : Int)] }, S.homes ++ [(k : Int)]⟩ := by
    unfold Sts.old Sts.insert
    rw [if_neg (by omega), if_neg (by omega)]
    exact ⟨rfl, rfl⟩
  rw [hf] at hx
  have HF := Lib.hid hf
  have HE := Lib.hid hE
  clear h hf hE
  go_enter Try.func27, Try.ntmps27
  go_upto_region 6 with (first
    | (at_builtin; refine wpList_append_lies _ rfl _ _ 48 rfl B 2 i0 (.int .i64 0) 1 8 Try.underlying48 hi hz0 hz1 hz2 rfl (by omega) (.slice a S.homes.length cap) _ _ rfl (HS.out.hrow.alloc _) ⟨w.heap.size, 0, none⟩ 1 1 [.int .i64 (-1)] rfl rfl (news_one _ _ _ _ rfl) (by simp [Value.oneCell']) (by omega) (by unfold maxLen; omega) (by omega) (by simp; omega) _ rfl ?_; intro g1 cap1 w1 hown1 hgrow1 hat1 hlt1; have ht1 := HS.out.top_far ((Chg.refl _ _).alloc _) hgrow1 HS.out.th (by decide); have c2 := cell_of_row w1 r 1 _ 50 (0, 0) ht1; have f1 := frozen_of_row w1 r 1 _ 50 ht1; have hcn := hown1.cellAt S.homes.length (by omega); rw [home_cell] at hcn; have hfn := hown1.frozenAt S.homes.length; have hgr := HS.out.home_ne ((Chg.refl _ _).alloc _) hat1; have hgr' := Ne.symm hgr; have HT1 := Lib.hid ht1; have HM := Lib.hid (HS.out.moreHomes (x := -1) ((Chg.refl _ _).alloc _) hgrow1 hown1 hat1 hlt1); clear ht1 hown1 hgrow1 hat1 hlt1)
    | (go_at_call 28; refine (find_as (S := ⟨S.regs, S.homes ++ [-1]⟩) ⟨_, _, _, _, HM.out.1⟩ hS.moreHomes (by simp; omega) k hk x f HF.out).mono ?_; rintro e w' ⟨rfl, rfl⟩))
  go_cut [7] (fun s7 wx => s7 = .int .i64 (S.homes.length : Int) ∧ InsAt B T w wx r S lv nv ov k)
  case first =>
    go_wp2_with fail
    go_meet
    have HQ := HM.out.1.setHome (g := g1) (cap := cap1) (by simp) S.homes.length (k : Int)
    have e : (S.homes ++ [(-1 : Int)]).set S.homes.length (k : Int) = S.homes ++ [(k : Int)] := by simp
    have h1 := HQ.1
    rw [e] at h1
    exact ⟨rfl, _, _, h1, HM.out.2.1.trans HQ.2 HM.out.2.2, HM.out.2.2⟩
  case rest =>
    obtain ⟨rfl, T', hv', h2, hch, hext⟩ := hcut
    obtain ⟨g, capl, rfl, d0, d1, d2, hgs⟩ := h2.at (k := k) hk
    obtain ⟨na, nc, hn⟩ := row_shape (h2.nrow k hk)
    obtain ⟨oa, oc, ho⟩ := row_shape (h2.orow k hk)
    have d1' : wc.cell? ⟨g, k * 3 + 1, none⟩ = some (.slice na (S.reg k).names.length nc) := by rw [d1, hn]; rfl
    have d2' : wc.cell? ⟨g, k * 3 + 2, none⟩ = some (.slice oa (S.reg k).objs.length oc) := by rw [d2, ho]; rfl
    clear d1 d2
    have c0 := h2.cell0
    have hrs2 : r < wc.heap.size := h2.fresh r (by rw [h2.tr]; decide)
    have H2 := Lib.hid h2
    have HN := Lib.hid hn
    have HO := Lib.hid ho
    have HC := Lib.hid hch
    have HX := Lib.hid hext
    clear h2 hn ho hch hext d0
    go_wp2_with fail
    have hbn : ∀ b, (Value.slice na (S.reg k).names.length nc).ownBlock = some b → b < wc.heap.size ∧ b ≠ r ∧ b ≠ g := fun b hb => by
      have e1 := H2.out.tn k hk b (by rw [HN.out]; exact hb)
      refine ⟨H2.out.fresh b (by omega), fun e => ?_, fun e => ?_⟩
      · have := H2.out.tr; rw [e] at e1; omega
      · have := H2.out.tl g rfl; rw [e] at e1; omega
    have hbo : ∀ b, (Value.slice oa (S.reg k).objs.length oc).ownBlock = some b → b < wc.heap.size ∧ b ≠ r ∧ b ≠ g := fun b hb => by
      have e1 := H2.out.tob k hk b (by rw [HO.out]; exact hb)
      refine ⟨H2.out.fresh b (by omega), fun e => ?_, fun e => ?_⟩
      · have := H2.out.tr; rw [e] at e1; omega
      · have := H2.out.tl g rfl; rw [e] at e1; omega
    have hno : ∀ b, (Value.slice na (S.reg k).names.length nc).ownBlock = some b → (Value.slice oa (S.reg k).objs.length oc).ownBlock ≠ some b := fun b hb hb' => by
      have e1 := H2.out.tn k hk b (by rw [HN.out]; exact hb)
      have e2 := H2.out.tob k hk b (by rw [HO.out]; exact hb')
      omega
    have frz1 : wc.frozen? ⟨g, k * 3 + 1, none⟩ = false := H2.out.lrow.frozenAt _
    have frz2 : wc.frozen? ⟨g, k * 3 + 2, none⟩ = false := H2.out.lrow.frozenAt _
    have rowN : wc.ownsRow B 9 1 (.slice na (S.reg k).names.length nc) (S.reg k).names.length ((S.reg k).names.map .string) := by
      have := H2.out.nrow k hk
      rw [HN.out] at this
      exact this
    have rowO : wc.ownsRow B 2 1 (.slice oa (S.reg k).objs.length oc) (S.reg k).objs.length ((S.reg k).objs.map (.int .i64)) := by
      have := H2.out.orow k hk
      rw [HO.out] at this
      exact this
    have hfew := hS.few k hk
    have hlen := hS.len k hk
    have hBc : B ≤ wc.heap.size := Nat.le_trans hB HC.out.size
    obtain ⟨i9, hi9, hz90, hz91, hz92⟩ := info_parts info9
    have HBN := Lib.hid hbn
    have HBO := Lib.hid hbo
    have HNO := Lib.hid hno
    have HON : Hid (∀ b, (Value.slice oa (S.reg k).objs.length oc).ownBlock = some b → (Value.slice na (S.reg k).names.length nc).ownBlock ≠ some b) := Lib.hid (fun b h1 h2 => HNO.out b h2 h1)
    have HRN := Lib.hid rowN
    have HRO := Lib.hid rowO
    have HLEN := Lib.hid hlen
    have hol : (S.reg k).objs.length ≤ S.homes.length := by omega
    clear hbn hbo hno rowN rowO hlen
    have hgr2 : g ≠ r := fun e => by
      have e1 := H2.out.tl g rfl
      have e2 := H2.out.tr
      rw [e] at e1
      omega
    rename_i KQ hKQ
    have HQ := Lib.hid hKQ
    clear hKQ
    refine wp_region_noPanic ?_
    refine wp_region_late (S := fun w' => w'.cell? ⟨r, 0, none⟩ = some (.slice (some ⟨g, 0, none⟩) S.regs.length capl) ∧ w'.cell? ⟨g, k * 3 + 1, none⟩ = some (.slice na (S.reg k).names.length nc) ∧ w'.cell? ⟨g, k * 3 + 2, none⟩ = some (.slice oa (S.reg k).objs.length oc)) [34, 37] (by kernel_rfl) ?_
    have hHeld : wc.drew.cell? ⟨r, 0, none⟩ = some (.slice (some ⟨g, 0, none⟩) S.regs.length capl) ∧ wc.drew.cell? ⟨g, k * 3 + 1, none⟩ = some (.slice na (S.reg k).names.length nc) ∧ wc.drew.cell? ⟨g, k * 3 + 2, none⟩ = some (.slice oa (S.reg k).objs.length oc) := ⟨c0, d1', d2'⟩
    refine wpAnyE_pure (i := 0) (v := ?_) rfl rfl (by kernel_rfl) (fun _ _ _ h => h) (Or.inl ⟨by rfl, ?_⟩) (fun _ => hHeld) ?_
    rotate_left
    · intro w' hSw; go_simp; first | done | with_reducible rfl
    simp only [Act.put, List.setIfInBounds_toArray, List.set_cons_zero, List.set_cons_succ]
    refine wpAnyE_pure (i := 1) (v := ?_) rfl rfl (by kernel_rfl) (fun _ _ _ h => h) (Or.inl ⟨by rfl, ?_⟩) (fun _ => hHeld) ?_
    rotate_left
    · intro w' hSw; go_simp; first | done | with_reducible rfl
    simp only [Act.put, List.setIfInBounds_toArray, List.set_cons_zero, List.set_cons_succ]
    refine wpAnyE_pure (i := 2) (v := ?_) rfl rfl (by kernel_rfl) (fun _ _ _ h => h) (Or.inl ⟨by rfl, ?_⟩) (fun _ => hHeld) ?_
    rotate_left
    · intro w' hSw; go_simp; first | done | with_reducible rfl
    simp only [Act.put, List.setIfInBounds_toArray, List.set_cons_zero, List.set_cons_succ]
    refine wpAnyE_taken (i := 3) (v := ?_) rfl rfl (by kernel_rfl) (fun _ _ _ h => h) (Or.inl ⟨by rfl, ?_⟩) hHeld ?_
    rotate_left
    · intro w' hSw; (try dsimp only at hSw); go_simp; first | done | with_reducible rfl
    simp only [Act.put, List.setIfInBounds_toArray, List.set_cons_zero, List.set_cons_succ]
    refine wpAnyE_pure (i := 4) (v := ?_) rfl rfl (by kernel_rfl) (fun _ _ _ h => h) (Or.inl ⟨by rfl, ?_⟩) (fun _ => hHeld) ?_
    rotate_left
    · intro w' hSw; go_simp; first | done | with_reducible rfl
    simp only [Act.put, List.setIfInBounds_toArray, List.set_cons_zero, List.set_cons_succ]
    refine wpAnyE_pure (i := 5) (v := ?_) rfl rfl (by kernel_rfl) (fun _ _ _ h => h) (Or.inl ⟨by rfl, ?_⟩) (fun _ => hHeld) ?_
    rotate_left
    · intro w' hSw; go_simp; first | done | with_reducible rfl
    simp only [Act.put, List.setIfInBounds_toArray, List.set_cons_zero, List.set_cons_succ]
    refine wpAnyE_pure (i := 6) (v := ?_) rfl rfl (by kernel_rfl) (fun _ _ _ h => h) (Or.inl ⟨by rfl, ?_⟩) (fun _ => hHeld) ?_
    rotate_left
    · intro w' hSw; go_simp; first | done | with_reducible rfl
    simp only [Act.put, List.setIfInBounds_toArray, List.set_cons_zero, List.set_cons_succ]
    refine wpAnyE_pure (i := 7) (v := ?_) rfl rfl (by kernel_rfl) (fun _ _ _ h => h) (Or.inl ⟨by rfl, ?_⟩) (fun _ => hHeld) ?_
    rotate_left
    · intro w' hSw; go_simp; first | done | with_reducible rfl
    simp only [Act.put, List.setIfInBounds_toArray, List.set_cons_zero, List.set_cons_succ]
    refine wpAnyE_taken (i := 8) (v := ?_) rfl rfl (by kernel_rfl) (fun _ _ _ h => h) (Or.inl ⟨by rfl, ?_⟩) hHeld ?_
    rotate_left
    · intro w' hSw; (try dsimp only at hSw); go_simp; first | done | with_reducible rfl
    simp only [Act.put, List.setIfInBounds_toArray, List.set_cons_zero, List.set_cons_succ]
    refine wpAnyE_pure (i := 9) (v := ?_) rfl rfl (by kernel_rfl) (fun _ _ _ h => h) (Or.inl ⟨by rfl, ?_⟩) (fun _ => hHeld) ?_
    rotate_left
    · intro w' hSw; go_simp; first | done | with_reducible rfl
    simp only [Act.put, List.setIfInBounds_toArray, List.set_cons_zero, List.set_cons_succ]
    refine wpAnyE_pure (i := 10) (v := ?_) rfl rfl (by kernel_rfl) (fun _ _ _ h => h) (Or.inl ⟨by rfl, ?_⟩) (fun _ => hHeld) ?_
    rotate_left
    · intro w' hSw; go_simp; first | done | with_reducible rfl
    simp only [Act.put, List.setIfInBounds_toArray, List.set_cons_zero, List.set_cons_succ]
    refine wpAnyE_pure (i := 11) (v := ?_) rfl rfl (by kernel_rfl) (fun _ _ _ h => h) (Or.inl ⟨by rfl, ?_⟩) (fun _ => hHeld) ?_
    rotate_left
    · intro w' hSw; go_simp; first | done | with_reducible rfl
    simp only [Act.put, List.setIfInBounds_toArray, List.set_cons_zero, List.set_cons_succ]
    refine wpAnyE_pure (i := 12) (v := ?_) rfl rfl (by kernel_rfl) (fun _ _ _ h => h) (Or.inl ⟨by rfl, ?_⟩) (fun _ => hHeld) ?_
    rotate_left
    · intro w' hSw; go_simp; first | done | with_reducible rfl
    simp only [Act.put, List.setIfInBounds_toArray, List.set_cons_zero, List.set_cons_succ]
    refine wpAnyE_taken (i := 13) (v := ?_) rfl rfl (by kernel_rfl) (fun _ _ _ h => h) (Or.inl ⟨by rfl, ?_⟩) hHeld ?_
    rotate_left
    · intro w' hSw; (try dsimp only at hSw); go_simp; first | done | with_reducible rfl
    simp only [Act.put, List.setIfInBounds_toArray, List.set_cons_zero, List.set_cons_succ]
    refine wpAnyE_pure (i := 14) (v := ?_) rfl rfl (by kernel_rfl) (fun _ _ _ h => h) (Or.inl ⟨by rfl, ?_⟩) (fun _ => hHeld) ?_
    rotate_left
    · intro w' hSw; go_simp; first | done | with_reducible rfl
    simp only [Act.put, List.setIfInBounds_toArray, List.set_cons_zero, List.set_cons_succ]
    refine wpAnyE_pure (i := 15) (v := ?_) rfl rfl (by kernel_rfl) (fun _ _ _ h => h) (Or.inl ⟨by rfl, ?_⟩) (fun _ => hHeld) ?_
    rotate_left
    · intro w' hSw; go_simp; first | done | with_reducible rfl
    simp only [Act.put, List.setIfInBounds_toArray, List.set_cons_zero, List.set_cons_succ]
    refine wpAnyE_pure (i := 16) (v := ?_) rfl rfl (by kernel_rfl) (fun _ _ _ h => h) (Or.inl ⟨by rfl, ?_⟩) (fun _ => hHeld) ?_
    rotate_left
    · intro w' hSw; go_simp; first | done | with_reducible rfl
    simp only [Act.put, List.setIfInBounds_toArray, List.set_cons_zero, List.set_cons_succ]
    refine wpAnyE_taken (i := 17) (v := ?_) rfl rfl (by kernel_rfl) (fun _ _ _ h => h) (Or.inl ⟨by rfl, ?_⟩) hHeld ?_
    rotate_left
    · intro w' hSw; (try dsimp only at hSw); go_simp; first | done | with_reducible rfl
    simp only [Act.put, List.setIfInBounds_toArray, List.set_cons_zero, List.set_cons_succ]
    refine wpAnyE_pure (i := 18) (v := ?_) rfl rfl (by kernel_rfl) (fun _ _ _ h => h) (Or.inl ⟨by rfl, ?_⟩) (fun _ => hHeld) ?_
    rotate_left
    · intro w' hSw; go_simp; first | done | with_reducible rfl
    simp only [Act.put, List.setIfInBounds_toArray, List.set_cons_zero, List.set_cons_succ]
    refine wpAnyE_pure (i := 21) (v := ?_) rfl rfl (by kernel_rfl) (fun _ _ _ h => h) (Or.inl ⟨by rfl, ?_⟩) (fun _ => hHeld) ?_
    rotate_left
    · intro w' hSw; go_simp; first | done | with_reducible rfl
    simp only [Act.put, List.setIfInBounds_toArray, List.set_cons_zero, List.set_cons_succ]
    refine wpAnyE_pure (i := 22) (v := ?_) rfl rfl (by kernel_rfl) (fun _ _ _ h => h) (Or.inl ⟨by rfl, ?_⟩) (fun _ => hHeld) ?_
    rotate_left
    · intro w' hSw; go_simp; first | done | with_reducible rfl
    simp only [Act.put, List.setIfInBounds_toArray, List.set_cons_zero, List.set_cons_succ]
    refine wpAnyE_pure (i := 23) (v := ?_) rfl rfl (by kernel_rfl) (fun _ _ _ h => h) (Or.inl ⟨by rfl, ?_⟩) (fun _ => hHeld) ?_
    rotate_left
    · intro w' hSw; go_simp; first | done | with_reducible rfl
    simp only [Act.put, List.setIfInBounds_toArray, List.set_cons_zero, List.set_cons_succ]
    refine wpAnyE_taken (i := 24) (v := ?_) rfl rfl (by kernel_rfl) (fun _ _ _ h => h) (Or.inl ⟨by rfl, ?_⟩) hHeld ?_
    rotate_left
    · intro w' hSw; (try dsimp only at hSw); go_simp; first | done | with_reducible rfl
    simp only [Act.put, List.setIfInBounds_toArray, List.set_cons_zero, List.set_cons_succ]
    refine wpAnyE_pure (i := 25) (v := ?_) rfl rfl (by kernel_rfl) (fun _ _ _ h => h) (Or.inl ⟨by rfl, ?_⟩) (fun _ => hHeld) ?_
    rotate_left
    · intro w' hSw; go_simp; first | done | with_reducible rfl
    simp only [Act.put, List.setIfInBounds_toArray, List.set_cons_zero, List.set_cons_succ]
    refine wpAnyE_pure (i := 26) (v := ?_) rfl rfl (by kernel_rfl) (fun _ _ _ h => h) (Or.inl ⟨by rfl, ?_⟩) (fun _ => hHeld) ?_
    rotate_left
    · intro w' hSw; go_simp; first | done | with_reducible rfl
    simp only [Act.put, List.setIfInBounds_toArray, List.set_cons_zero, List.set_cons_succ]
    refine wpAnyE_pure (i := 27) (v := ?_) rfl rfl (by kernel_rfl) (fun _ _ _ h => h) (Or.inl ⟨by rfl, ?_⟩) (fun _ => hHeld) ?_
    rotate_left
    · intro w' hSw; go_simp; first | done | with_reducible rfl
    simp only [Act.put, List.setIfInBounds_toArray, List.set_cons_zero, List.set_cons_succ]
    refine wpAnyE_taken (i := 28) (v := ?_) rfl rfl (by kernel_rfl) (fun _ _ _ h => h) (Or.inl ⟨by rfl, ?_⟩) hHeld ?_
    rotate_left
    · intro w' hSw; (try dsimp only at hSw); go_simp; first | done | with_reducible rfl
    simp only [Act.put, List.setIfInBounds_toArray, List.set_cons_zero, List.set_cons_succ]
    refine wpAnyE_pure (i := 29) (v := ?_) rfl rfl (by kernel_rfl) (fun _ _ _ h => h) (Or.inl ⟨by rfl, ?_⟩) (fun _ => hHeld) ?_
    rotate_left
    · intro w' hSw; go_simp; first | done | with_reducible rfl
    simp only [Act.put, List.setIfInBounds_toArray, List.set_cons_zero, List.set_cons_succ]
    clear hHeld
    refine wpAnyE_ready (rs := [19, 30]) (by kernel_rfl) (by simp) ?_
    refine AllReadyE.next rfl (fun K hK => ?_) (AllReadyE.next rfl (fun K hK => ?_) AllReadyE.nil)
    · have HK := Lib.hid hK
      clear hK
      go_simp
      refine HK.out _ _ (fun _ => by exact ⟨by go_simp, by go_simp, by go_simp⟩) ?_
      clear HK K
      try simp only [Act.put, List.setIfInBounds_toArray, List.set_cons_zero, List.set_cons_succ]
      refine wpAnyE_ready (rs := [20, 30]) (by kernel_rfl) (by simp) ?_
      refine AllReadyE.next rfl (fun K hK => ?_) (AllReadyE.next rfl (fun K hK => ?_) AllReadyE.nil)
      · have HK := Lib.hid hK
        clear hK
        refine step_append_lies _ (by rfl) (.tmp 54) (.tmp 56) 51 (by rfl) B 9 i9 (.string ⟨#[]⟩) 1 16 Try.underlying51 hi9 hz90 hz91 hz92 (by rfl) (by omega) (.slice na (S.reg k).names.length nc) (S.reg k).names.length ((S.reg k).names.map .string) (by rfl) (HRN.out.chg' (by repeat (first | assumption | exact Chg.refl _ _ | apply Chg.alloc | apply Chg.drew)) HNO.out) _ 1 1 [.string x] (by rfl) (by rfl) (news_of_cell (by first | (go_simp; done) | (rw [hgrowO.out.cell_far _ (by first | (simp; done) | (simp; omega) | omega) (far_ne HBO.out (by simp))]; go_simp; done) | fail)) (by simp [Value.oneCell']) (by omega) (by unfold maxLen; omega) (by omega) (by first | (simp; omega) | (refine Nat.le_trans hBc (Chg.size (M := fun b => (Value.slice oa (S.reg k).objs.length oc).ownBlock = some b) (w := wc) ?_); repeat (first | assumption | exact Chg.refl _ _ | apply Chg.alloc | apply Chg.drew))) _ rfl ?_
        intro gN capN wN hownN0 hgrowN0 hatN0 hltN0
        have hsN : wc.heap.size ≤ wN.heap.size := (by have := hgrowN0.size; (try simp at this); omega)
        have hgN1 : g < wN.heap.size := (by omega)
        have hrN1 : r < wN.heap.size := (by omega)
        have cN0 : wN.cell? ⟨r, 0, none⟩ = some (.slice (some ⟨g, 0, none⟩) S.regs.length capl) := hgrowN0.cell (by go_simp) (fun e => (HBN.out _ e.symm).2.1 rfl)
        have cN1 : wN.cell? ⟨g, k * 3 + 1, none⟩ = some (.slice na (S.reg k).names.length nc) := hgrowN0.cell (by go_simp) (fun e => (HBN.out _ e.symm).2.2 rfl)
        have cN2 : wN.cell? ⟨g, k * 3 + 2, none⟩ = some (.slice oa (S.reg k).objs.length oc) := hgrowN0.cell (by go_simp) (fun e => (HBN.out _ e.symm).2.2 rfl)
        have fN1 : wN.frozen? ⟨g, k * 3 + 1, none⟩ = false := (hgrowN0.frozen_far ⟨g, k * 3 + 1, none⟩ (by simp; omega) (fun e => (HBN.out _ e.symm).2.2 rfl)).trans (by go_simp)
        have fN2 : wN.frozen? ⟨g, k * 3 + 2, none⟩ = false := (hgrowN0.frozen_far ⟨g, k * 3 + 2, none⟩ (by simp; omega) (fun e => (HBN.out _ e.symm).2.2 rfl)).trans (by go_simp)
        have hownN := Lib.hid hownN0
        have hgrowN := Lib.hid hgrowN0
        have hatN := Lib.hid hatN0
        have hcN : Chg (fun b => (Value.slice na (S.reg k).names.length nc).ownBlock = some b) wc wN := Chg.grown (by repeat (first | exact Chg.refl _ _ | apply Chg.alloc | apply Chg.drew)) hgrowN0 (fun _ e => .inl e)
        clear hownN0 hgrowN0 hatN0 hltN0
        refine HK.out _ _ (fun _ => ⟨cN0, cN1, cN2⟩) ?_
        clear HK K
        try simp only [Act.put, List.setIfInBounds_toArray, List.set_cons_zero, List.set_cons_succ]
        refine wpAnyE_ready (rs := [30]) (by kernel_rfl) (by simp) ?_
        refine AllReadyE.next rfl (fun K hK => ?_) AllReadyE.nil
        have HK := Lib.hid hK
        clear hK
        go_simp
        refine HK.out _ _ (fun _ => by exact ⟨by go_simp, by go_simp, by go_simp⟩) ?_
        clear HK K
        try simp only [Act.put, List.setIfInBounds_toArray, List.set_cons_zero, List.set_cons_succ]
        refine wpAnyE_ready (rs := [31]) (by kernel_rfl) (by simp) ?_
        refine AllReadyE.next rfl (fun K hK => ?_) AllReadyE.nil
        have HK := Lib.hid hK
        clear hK
        refine step_append_lies _ (by rfl) (.tmp 65) (.tmp 67) 48 (by rfl) B 2 i0 (.int .i64 0) 1 8 Try.underlying48 hi hz0 hz1 hz2 (by rfl) (by omega) (.slice oa (S.reg k).objs.length oc) (S.reg k).objs.length ((S.reg k).objs.map (.int .i64)) (by rfl) (HRO.out.chg' (by repeat (first | assumption | exact Chg.refl _ _ | apply Chg.alloc | apply Chg.drew)) HON.out) _ 1 1 [.int .i64 (S.homes.length : Int)] (by rfl) (by rfl) (news_of_cell (by first | (go_simp; done) | (rw [hgrowN.out.cell_far _ (by first | (simp; done) | (simp; omega) | omega) (far_ne HBN.out (by simp))]; go_simp; done) | fail)) (by simp [Value.oneCell']) (by omega) (by unfold maxLen; omega) (by omega) (by first | (simp; omega) | (refine Nat.le_trans hBc (Chg.size (M := fun b => (Value.slice na (S.reg k).names.length nc).ownBlock = some b) (w := wc) ?_); repeat (first | assumption | exact Chg.refl _ _ | apply Chg.alloc | apply Chg.drew))) _ rfl ?_
        intro gO capO wO hownO0 hgrowO0 hatO0 hltO0
        have hsO : wc.heap.size ≤ wO.heap.size := (by have := hgrowO0.size; (try simp at this); omega)
        have hgO1 : g < wO.heap.size := (by omega)
        have hrO1 : r < wO.heap.size := (by omega)
        have cO0 : wO.cell? ⟨r, 0, none⟩ = some (.slice (some ⟨g, 0, none⟩) S.regs.length capl) := hgrowO0.cell (by go_simp) (fun e => (HBO.out _ e.symm).2.1 rfl)
        have cO1 : wO.cell? ⟨g, k * 3 + 1, none⟩ = some (.slice na (S.reg k).names.length nc) := hgrowO0.cell (by go_simp) (fun e => (HBO.out _ e.symm).2.2 rfl)
        have cO2 : wO.cell? ⟨g, k * 3 + 2, none⟩ = some (.slice oa (S.reg k).objs.length oc) := hgrowO0.cell (by go_simp) (fun e => (HBO.out _ e.symm).2.2 rfl)
        have fO1 : wO.frozen? ⟨g, k * 3 + 1, none⟩ = false := (hgrowO0.frozen_far ⟨g, k * 3 + 1, none⟩ (by simp; omega) (fun e => (HBO.out _ e.symm).2.2 rfl)).trans (by go_simp)
        have fO2 : wO.frozen? ⟨g, k * 3 + 2, none⟩ = false := (hgrowO0.frozen_far ⟨g, k * 3 + 2, none⟩ (by simp; omega) (fun e => (HBO.out _ e.symm).2.2 rfl)).trans (by go_simp)
        have hownO := Lib.hid hownO0
        have hgrowO := Lib.hid hgrowO0
        have hatO := Lib.hid hatO0
        clear hownO0 hgrowO0 hatO0 hltO0
        refine HK.out _ _ (fun _ => ⟨cO0, cO1, cO2⟩) ?_
        clear HK K
        try simp only [Act.put, List.setIfInBounds_toArray, List.set_cons_zero, List.set_cons_succ]
        refine wpAnyE_pure (i := 32) (v := ?_) rfl rfl (by kernel_rfl) (fun _ _ _ h => h) (Or.inl ⟨by rfl, ?_⟩) (fun _ => ⟨cO0, cO1, cO2⟩) ?_
        rotate_left
        · intro w' hSw; go_simp; first | done | with_reducible rfl
        simp only [Act.put, List.setIfInBounds_toArray, List.set_cons_zero, List.set_cons_succ]
        refine wpAnyE_pure (i := 33) (v := ?_) rfl rfl (by kernel_rfl) (fun _ _ _ h => h) (Or.inl ⟨by rfl, ?_⟩) (fun _ => ⟨cO0, cO1, cO2⟩) ?_
        rotate_left
        · intro w' hSw; go_simp; first | done | with_reducible rfl
        simp only [Act.put, List.setIfInBounds_toArray, List.set_cons_zero, List.set_cons_succ]
        refine wpAnyE_ready (rs := [34]) (by kernel_rfl) (by simp) ?_
        refine AllReadyE.next rfl (fun K hK => ?_) AllReadyE.nil
        have HK := Lib.hid hK
        clear hK
        go_simp
        refine HK.out _ _ (not_late (by kernel_rfl)) ?_
        clear HK K
        try simp only [Act.put, List.setIfInBounds_toArray, List.set_cons_zero, List.set_cons_succ]
        refine wpAnyE_pure (i := 35) (v := ?_) rfl rfl (by kernel_rfl) (fun _ _ _ h => h) (Or.inl ⟨by rfl, ?_⟩) (not_late (by kernel_rfl)) ?_
        rotate_left
        · intro w' hSw; go_simp; first | done | with_reducible rfl
        simp only [Act.put, List.setIfInBounds_toArray, List.set_cons_zero, List.set_cons_succ]
        refine wpAnyE_pure (i := 36) (v := ?_) rfl rfl (by kernel_rfl) (fun _ _ _ h => h) (Or.inl ⟨by rfl, ?_⟩) (not_late (by kernel_rfl)) ?_
        rotate_left
        · intro w' hSw; go_simp; first | done | with_reducible rfl
        simp only [Act.put, List.setIfInBounds_toArray, List.set_cons_zero, List.set_cons_succ]
        refine wpAnyE_ready (rs := [37]) (by kernel_rfl) (by simp) ?_
        refine AllReadyE.next rfl (fun K hK => ?_) AllReadyE.nil
        have HK := Lib.hid hK
        clear hK
        go_simp
        refine HK.out _ _ (not_late (by kernel_rfl)) ?_
        clear HK K
        try simp only [Act.put, List.setIfInBounds_toArray, List.set_cons_zero, List.set_cons_succ]
        refine wpAnyE_done (by kernel_rfl) ?_
        refine NoPanic.normal ?_
        show KQ _ _
        refine HQ.out _ _ ?_
        clear HQ KQ
        have hfin := ins_fin H2.out hk HLEN.out HN.out HO.out hcN (Chg.grown (by repeat (first | exact Chg.refl _ _ | apply Chg.alloc | apply Chg.drew)) hgrowO.out (fun _ e => .inl e)) hownN.out hownO.out (hatN.out.imp id (fun e => by rw [e]; simp; try omega)) (hatO.out.imp id (fun e => by rw [e]; (try simp); omega)) HC.out HX.out HE.out.2
        have HFIN := Lib.hid hfin
        clear hfin
        go_wp2_with fail
        go_ret
        exact ⟨ret_i64 HE.out.1.symm, HFIN.out⟩
      · have HK := Lib.hid hK
        clear hK
        go_simp
        refine HK.out _ _ (fun _ => by exact ⟨by go_simp, by go_simp, by go_simp⟩) ?_
        clear HK K
        try simp only [Act.put, List.setIfInBounds_toArray, List.set_cons_zero, List.set_cons_succ]
        refine wpAnyE_ready (rs := [20]) (by kernel_rfl) (by simp) ?_
        refine AllReadyE.next rfl (fun K hK => ?_) AllReadyE.nil
        have HK := Lib.hid hK
        clear hK
        refine step_append_lies _ (by rfl) (.tmp 54) (.tmp 56) 51 (by rfl) B 9 i9 (.string ⟨#[]⟩) 1 16 Try.underlying51 hi9 hz90 hz91 hz92 (by rfl) (by omega) (.slice na (S.reg k).names.length nc) (S.reg k).names.length ((S.reg k).names.map .string) (by rfl) (HRN.out.chg' (by repeat (first | assumption | exact Chg.refl _ _ | apply Chg.alloc | apply Chg.drew)) HNO.out) _ 1 1 [.string x] (by rfl) (by rfl) (news_of_cell (by first | (go_simp; done) | (rw [hgrowO.out.cell_far _ (by first | (simp; done) | (simp; omega) | omega) (far_ne HBO.out (by simp))]; go_simp; done) | fail)) (by simp [Value.oneCell']) (by omega) (by unfold maxLen; omega) (by omega) (by first | (simp; omega) | (refine Nat.le_trans hBc (Chg.size (M := fun b => (Value.slice oa (S.reg k).objs.length oc).ownBlock = some b) (w := wc) ?_); repeat (first | assumption | exact Chg.refl _ _ | apply Chg.alloc | apply Chg.drew))) _ rfl ?_
        intro gN capN wN hownN0 hgrowN0 hatN0 hltN0
        have hsN : wc.heap.size ≤ wN.heap.size := (by have := hgrowN0.size; (try simp at this); omega)
        have hgN1 : g < wN.heap.size := (by omega)
        have hrN1 : r < wN.heap.size := (by omega)
        have cN0 : wN.cell? ⟨r, 0, none⟩ = some (.slice (some ⟨g, 0, none⟩) S.regs.length capl) := hgrowN0.cell (by go_simp) (fun e => (HBN.out _ e.symm).2.1 rfl)
        have cN1 : wN.cell? ⟨g, k * 3 + 1, none⟩ = some (.slice na (S.reg k).names.length nc) := hgrowN0.cell (by go_simp) (fun e => (HBN.out _ e.symm).2.2 rfl)
        have cN2 : wN.cell? ⟨g, k * 3 + 2, none⟩ = some (.slice oa (S.reg k).objs.length oc) := hgrowN0.cell (by go_simp) (fun e => (HBN.out _ e.symm).2.2 rfl)
        have fN1 : wN.frozen? ⟨g, k * 3 + 1, none⟩ = false := (hgrowN0.frozen_far ⟨g, k * 3 + 1, none⟩ (by simp; omega) (fun e => (HBN.out _ e.symm).2.2 rfl)).trans (by go_simp)
        have fN2 : wN.frozen? ⟨g, k * 3 + 2, none⟩ = false := (hgrowN0.frozen_far ⟨g, k * 3 + 2, none⟩ (by simp; omega) (fun e => (HBN.out _ e.symm).2.2 rfl)).trans (by go_simp)
        have hownN := Lib.hid hownN0
        have hgrowN := Lib.hid hgrowN0
        have hatN := Lib.hid hatN0
        have hcN : Chg (fun b => (Value.slice na (S.reg k).names.length nc).ownBlock = some b) wc wN := Chg.grown (by repeat (first | exact Chg.refl _ _ | apply Chg.alloc | apply Chg.drew)) hgrowN0 (fun _ e => .inl e)
        clear hownN0 hgrowN0 hatN0 hltN0
        refine HK.out _ _ (fun _ => ⟨cN0, cN1, cN2⟩) ?_
        clear HK K
        try simp only [Act.put, List.setIfInBounds_toArray, List.set_cons_zero, List.set_cons_succ]
        refine wpAnyE_ready (rs := [31]) (by kernel_rfl) (by simp) ?_
        refine AllReadyE.next rfl (fun K hK => ?_) AllReadyE.nil
        have HK := Lib.hid hK
        clear hK
        refine step_append_lies _ (by rfl) (.tmp 65) (.tmp 67) 48 (by rfl) B 2 i0 (.int .i64 0) 1 8 Try.underlying48 hi hz0 hz1 hz2 (by rfl) (by omega) (.slice oa (S.reg k).objs.length oc) (S.reg k).objs.length ((S.reg k).objs.map (.int .i64)) (by rfl) (HRO.out.chg' (by repeat (first | assumption | exact Chg.refl _ _ | apply Chg.alloc | apply Chg.drew)) HON.out) _ 1 1 [.int .i64 (S.homes.length : Int)] (by rfl) (by rfl) (news_of_cell (by first | (go_simp; done) | (rw [hgrowN.out.cell_far _ (by first | (simp; done) | (simp; omega) | omega) (far_ne HBN.out (by simp))]; go_simp; done) | fail)) (by simp [Value.oneCell']) (by omega) (by unfold maxLen; omega) (by omega) (by first | (simp; omega) | (refine Nat.le_trans hBc (Chg.size (M := fun b => (Value.slice na (S.reg k).names.length nc).ownBlock = some b) (w := wc) ?_); repeat (first | assumption | exact Chg.refl _ _ | apply Chg.alloc | apply Chg.drew))) _ rfl ?_
        intro gO capO wO hownO0 hgrowO0 hatO0 hltO0
        have hsO : wc.heap.size ≤ wO.heap.size := (by have := hgrowO0.size; (try simp at this); omega)
        have hgO1 : g < wO.heap.size := (by omega)
        have hrO1 : r < wO.heap.size := (by omega)
        have cO0 : wO.cell? ⟨r, 0, none⟩ = some (.slice (some ⟨g, 0, none⟩) S.regs.length capl) := hgrowO0.cell (by go_simp) (fun e => (HBO.out _ e.symm).2.1 rfl)
        have cO1 : wO.cell? ⟨g, k * 3 + 1, none⟩ = some (.slice na (S.reg k).names.length nc) := hgrowO0.cell (by go_simp) (fun e => (HBO.out _ e.symm).2.2 rfl)
        have cO2 : wO.cell? ⟨g, k * 3 + 2, none⟩ = some (.slice oa (S.reg k).objs.length oc) := hgrowO0.cell (by go_simp) (fun e => (HBO.out _ e.symm).2.2 rfl)
        have fO1 : wO.frozen? ⟨g, k * 3 + 1, none⟩ = false := (hgrowO0.frozen_far ⟨g, k * 3 + 1, none⟩ (by simp; omega) (fun e => (HBO.out _ e.symm).2.2 rfl)).trans (by go_simp)
        have fO2 : wO.frozen? ⟨g, k * 3 + 2, none⟩ = false := (hgrowO0.frozen_far ⟨g, k * 3 + 2, none⟩ (by simp; omega) (fun e => (HBO.out _ e.symm).2.2 rfl)).trans (by go_simp)
        have hownO := Lib.hid hownO0
        have hgrowO := Lib.hid hgrowO0
        have hatO := Lib.hid hatO0
        clear hownO0 hgrowO0 hatO0 hltO0
        refine HK.out _ _ (fun _ => ⟨cO0, cO1, cO2⟩) ?_
        clear HK K
        try simp only [Act.put, List.setIfInBounds_toArray, List.set_cons_zero, List.set_cons_succ]
        refine wpAnyE_pure (i := 32) (v := ?_) rfl rfl (by kernel_rfl) (fun _ _ _ h => h) (Or.inl ⟨by rfl, ?_⟩) (fun _ => ⟨cO0, cO1, cO2⟩) ?_
        rotate_left
        · intro w' hSw; go_simp; first | done | with_reducible rfl
        simp only [Act.put, List.setIfInBounds_toArray, List.set_cons_zero, List.set_cons_succ]
        refine wpAnyE_pure (i := 33) (v := ?_) rfl rfl (by kernel_rfl) (fun _ _ _ h => h) (Or.inl ⟨by rfl, ?_⟩) (fun _ => ⟨cO0, cO1, cO2⟩) ?_
        rotate_left
        · intro w' hSw; go_simp; first | done | with_reducible rfl
        simp only [Act.put, List.setIfInBounds_toArray, List.set_cons_zero, List.set_cons_succ]
        refine wpAnyE_ready (rs := [34]) (by kernel_rfl) (by simp) ?_
        refine AllReadyE.next rfl (fun K hK => ?_) AllReadyE.nil
        have HK := Lib.hid hK
        clear hK
        go_simp
        refine HK.out _ _ (not_late (by kernel_rfl)) ?_
        clear HK K
        try simp only [Act.put, List.setIfInBounds_toArray, List.set_cons_zero, List.set_cons_succ]
        refine wpAnyE_pure (i := 35) (v := ?_) rfl rfl (by kernel_rfl) (fun _ _ _ h => h) (Or.inl ⟨by rfl, ?_⟩) (not_late (by kernel_rfl)) ?_
        rotate_left
        · intro w' hSw; go_simp; first | done | with_reducible rfl
        simp only [Act.put, List.setIfInBounds_toArray, List.set_cons_zero, List.set_cons_succ]
        refine wpAnyE_pure (i := 36) (v := ?_) rfl rfl (by kernel_rfl) (fun _ _ _ h => h) (Or.inl ⟨by rfl, ?_⟩) (not_late (by kernel_rfl)) ?_
        rotate_left
        · intro w' hSw; go_simp; first | done | with_reducible rfl
        simp only [Act.put, List.setIfInBounds_toArray, List.set_cons_zero, List.set_cons_succ]
        refine wpAnyE_ready (rs := [37]) (by kernel_rfl) (by simp) ?_
        refine AllReadyE.next rfl (fun K hK => ?_) AllReadyE.nil
        have HK := Lib.hid hK
        clear hK
        go_simp
        refine HK.out _ _ (not_late (by kernel_rfl)) ?_
        clear HK K
        try simp only [Act.put, List.setIfInBounds_toArray, List.set_cons_zero, List.set_cons_succ]
        refine wpAnyE_done (by kernel_rfl) ?_
        refine NoPanic.normal ?_
        show KQ _ _
        refine HQ.out _ _ ?_
        clear HQ KQ
        have hfin := ins_fin H2.out hk HLEN.out HN.out HO.out hcN (Chg.grown (by repeat (first | exact Chg.refl _ _ | apply Chg.alloc | apply Chg.drew)) hgrowO.out (fun _ e => .inl e)) hownN.out hownO.out (hatN.out.imp id (fun e => by rw [e]; simp; try omega)) (hatO.out.imp id (fun e => by rw [e]; (try simp); omega)) HC.out HX.out HE.out.2
        have HFIN := Lib.hid hfin
        clear hfin
        go_wp2_with fail
        go_ret
        exact ⟨ret_i64 HE.out.1.symm, HFIN.out⟩
    · have HK := Lib.hid hK
      clear hK
      go_simp
      refine HK.out _ _ (fun _ => by exact ⟨by go_simp, by go_simp, by go_simp⟩) ?_
      clear HK K
      try simp only [Act.put, List.setIfInBounds_toArray, List.set_cons_zero, List.set_cons_succ]
      refine wpAnyE_ready (rs := [19]) (by kernel_rfl) (by simp) ?_
      refine AllReadyE.next rfl (fun K hK => ?_) AllReadyE.nil
      have HK := Lib.hid hK
      clear hK
      go_simp
      refine HK.out _ _ (fun _ => by exact ⟨by go_simp, by go_simp, by go_simp⟩) ?_
      clear HK K
      try simp only [Act.put, List.setIfInBounds_toArray, List.set_cons_zero, List.set_cons_succ]
      refine wpAnyE_ready (rs := [20]) (by kernel_rfl) (by simp) ?_
      refine AllReadyE.next rfl (fun K hK => ?_) AllReadyE.nil
      have HK := Lib.hid hK
      clear hK
      refine step_append_lies _ (by rfl) (.tmp 54) (.tmp 56) 51 (by rfl) B 9 i9 (.string ⟨#[]⟩) 1 16 Try.underlying51 hi9 hz90 hz91 hz92 (by rfl) (by omega) (.slice na (S.reg k).names.length nc) (S.reg k).names.length ((S.reg k).names.map .string) (by rfl) (HRN.out.chg' (by repeat (first | assumption | exact Chg.refl _ _ | apply Chg.alloc | apply Chg.drew)) HNO.out) _ 1 1 [.string x] (by rfl) (by rfl) (news_of_cell (by first | (go_simp; done) | (rw [hgrowO.out.cell_far _ (by first | (simp; done) | (simp; omega) | omega) (far_ne HBO.out (by simp))]; go_simp; done) | fail)) (by simp [Value.oneCell']) (by omega) (by unfold maxLen; omega) (by omega) (by first | (simp; omega) | (refine Nat.le_trans hBc (Chg.size (M := fun b => (Value.slice oa (S.reg k).objs.length oc).ownBlock = some b) (w := wc) ?_); repeat (first | assumption | exact Chg.refl _ _ | apply Chg.alloc | apply Chg.drew))) _ rfl ?_
      intro gN capN wN hownN0 hgrowN0 hatN0 hltN0
      have hsN : wc.heap.size ≤ wN.heap.size := (by have := hgrowN0.size; (try simp at this); omega)
      have hgN1 : g < wN.heap.size := (by omega)
      have hrN1 : r < wN.heap.size := (by omega)
      have cN0 : wN.cell? ⟨r, 0, none⟩ = some (.slice (some ⟨g, 0, none⟩) S.regs.length capl) := hgrowN0.cell (by go_simp) (fun e => (HBN.out _ e.symm).2.1 rfl)
      have cN1 : wN.cell? ⟨g, k * 3 + 1, none⟩ = some (.slice na (S.reg k).names.length nc) := hgrowN0.cell (by go_simp) (fun e => (HBN.out _ e.symm).2.2 rfl)
      have cN2 : wN.cell? ⟨g, k * 3 + 2, none⟩ = some (.slice oa (S.reg k).objs.length oc) := hgrowN0.cell (by go_simp) (fun e => (HBN.out _ e.symm).2.2 rfl)
      have fN1 : wN.frozen? ⟨g, k * 3 + 1, none⟩ = false := (hgrowN0.frozen_far ⟨g, k * 3 + 1, none⟩ (by simp; omega) (fun e => (HBN.out _ e.symm).2.2 rfl)).trans (by go_simp)
      have fN2 : wN.frozen? ⟨g, k * 3 + 2, none⟩ = false := (hgrowN0.frozen_far ⟨g, k * 3 + 2, none⟩ (by simp; omega) (fun e => (HBN.out _ e.symm).2.2 rfl)).trans (by go_simp)
      have hownN := Lib.hid hownN0
      have hgrowN := Lib.hid hgrowN0
      have hatN := Lib.hid hatN0
      have hcN : Chg (fun b => (Value.slice na (S.reg k).names.length nc).ownBlock = some b) wc wN := Chg.grown (by repeat (first | exact Chg.refl _ _ | apply Chg.alloc | apply Chg.drew)) hgrowN0 (fun _ e => .inl e)
      clear hownN0 hgrowN0 hatN0 hltN0
      refine HK.out _ _ (fun _ => ⟨cN0, cN1, cN2⟩) ?_
      clear HK K
      try simp only [Act.put, List.setIfInBounds_toArray, List.set_cons_zero, List.set_cons_succ]
      refine wpAnyE_ready (rs := [31]) (by kernel_rfl) (by simp) ?_
      refine AllReadyE.next rfl (fun K hK => ?_) AllReadyE.nil
      have HK := Lib.hid hK
      clear hK
      refine step_append_lies _ (by rfl) (.tmp 65) (.tmp 67) 48 (by rfl) B 2 i0 (.int .i64 0) 1 8 Try.underlying48 hi hz0 hz1 hz2 (by rfl) (by omega) (.slice oa (S.reg k).objs.length oc) (S.reg k).objs.length ((S.reg k).objs.map (.int .i64)) (by rfl) (HRO.out.chg' (by repeat (first | assumption | exact Chg.refl _ _ | apply Chg.alloc | apply Chg.drew)) HON.out) _ 1 1 [.int .i64 (S.homes.length : Int)] (by rfl) (by rfl) (news_of_cell (by first | (go_simp; done) | (rw [hgrowN.out.cell_far _ (by first | (simp; done) | (simp; omega) | omega) (far_ne HBN.out (by simp))]; go_simp; done) | fail)) (by simp [Value.oneCell']) (by omega) (by unfold maxLen; omega) (by omega) (by first | (simp; omega) | (refine Nat.le_trans hBc (Chg.size (M := fun b => (Value.slice na (S.reg k).names.length nc).ownBlock = some b) (w := wc) ?_); repeat (first | assumption | exact Chg.refl _ _ | apply Chg.alloc | apply Chg.drew))) _ rfl ?_
      intro gO capO wO hownO0 hgrowO0 hatO0 hltO0
      have hsO : wc.heap.size ≤ wO.heap.size := (by have := hgrowO0.size; (try simp at this); omega)
      have hgO1 : g < wO.heap.size := (by omega)
      have hrO1 : r < wO.heap.size := (by omega)
      have cO0 : wO.cell? ⟨r, 0, none⟩ = some (.slice (some ⟨g, 0, none⟩) S.regs.length capl) := hgrowO0.cell (by go_simp) (fun e => (HBO.out _ e.symm).2.1 rfl)
      have cO1 : wO.cell? ⟨g, k * 3 + 1, none⟩ = some (.slice na (S.reg k).names.length nc) := hgrowO0.cell (by go_simp) (fun e => (HBO.out _ e.symm).2.2 rfl)
      have cO2 : wO.cell? ⟨g, k * 3 + 2, none⟩ = some (.slice oa (S.reg k).objs.length oc) := hgrowO0.cell (by go_simp) (fun e => (HBO.out _ e.symm).2.2 rfl)
      have fO1 : wO.frozen? ⟨g, k * 3 + 1, none⟩ = false := (hgrowO0.frozen_far ⟨g, k * 3 + 1, none⟩ (by simp; omega) (fun e => (HBO.out _ e.symm).2.2 rfl)).trans (by go_simp)
      have fO2 : wO.frozen? ⟨g, k * 3 + 2, none⟩ = false := (hgrowO0.frozen_far ⟨g, k * 3 + 2, none⟩ (by simp; omega) (fun e => (HBO.out _ e.symm).2.2 rfl)).trans (by go_simp)
      have hownO := Lib.hid hownO0
      have hgrowO := Lib.hid hgrowO0
      have hatO := Lib.hid hatO0
      clear hownO0 hgrowO0 hatO0 hltO0
      refine HK.out _ _ (fun _ => ⟨cO0, cO1, cO2⟩) ?_
      clear HK K
      try simp only [Act.put, List.setIfInBounds_toArray, List.set_cons_zero, List.set_cons_succ]
      refine wpAnyE_pure (i := 32) (v := ?_) rfl rfl (by kernel_rfl) (fun _ _ _ h => h) (Or.inl ⟨by rfl, ?_⟩) (fun _ => ⟨cO0, cO1, cO2⟩) ?_
      rotate_left
      · intro w' hSw; go_simp; first | done | with_reducible rfl
      simp only [Act.put, List.setIfInBounds_toArray, List.set_cons_zero, List.set_cons_succ]
      refine wpAnyE_pure (i := 33) (v := ?_) rfl rfl (by kernel_rfl) (fun _ _ _ h => h) (Or.inl ⟨by rfl, ?_⟩) (fun _ => ⟨cO0, cO1, cO2⟩) ?_
      rotate_left
      · intro w' hSw; go_simp; first | done | with_reducible rfl
      simp only [Act.put, List.setIfInBounds_toArray, List.set_cons_zero, List.set_cons_succ]
      refine wpAnyE_ready (rs := [34]) (by kernel_rfl) (by simp) ?_
      refine AllReadyE.next rfl (fun K hK => ?_) AllReadyE.nil
      have HK := Lib.hid hK
      clear hK
      go_simp
      refine HK.out _ _ (not_late (by kernel_rfl)) ?_
      clear HK K
      try simp only [Act.put, List.setIfInBounds_toArray, List.set_cons_zero, List.set_cons_succ]
      refine wpAnyE_pure (i := 35) (v := ?_) rfl rfl (by kernel_rfl) (fun _ _ _ h => h) (Or.inl ⟨by rfl, ?_⟩) (not_late (by kernel_rfl)) ?_
      rotate_left
      · intro w' hSw; go_simp; first | done | with_reducible rfl
      simp only [Act.put, List.setIfInBounds_toArray, List.set_cons_zero, List.set_cons_succ]
      refine wpAnyE_pure (i := 36) (v := ?_) rfl rfl (by kernel_rfl) (fun _ _ _ h => h) (Or.inl ⟨by rfl, ?_⟩) (not_late (by kernel_rfl)) ?_
      rotate_left
      · intro w' hSw; go_simp; first | done | with_reducible rfl
      simp only [Act.put, List.setIfInBounds_toArray, List.set_cons_zero, List.set_cons_succ]
      refine wpAnyE_ready (rs := [37]) (by kernel_rfl) (by simp) ?_
      refine AllReadyE.next rfl (fun K hK => ?_) AllReadyE.nil
      have HK := Lib.hid hK
      clear hK
      go_simp
      refine HK.out _ _ (not_late (by kernel_rfl)) ?_
      clear HK K
      try simp only [Act.put, List.setIfInBounds_toArray, List.set_cons_zero, List.set_cons_succ]
      refine wpAnyE_done (by kernel_rfl) ?_
      refine NoPanic.normal ?_
      show KQ _ _
      refine HQ.out _ _ ?_
      clear HQ KQ
      have hfin := ins_fin H2.out hk HLEN.out HN.out HO.out hcN (Chg.grown (by repeat (first | exact Chg.refl _ _ | apply Chg.alloc | apply Chg.drew)) hgrowO.out (fun _ e => .inl e)) hownN.out hownO.out (hatN.out.imp id (fun e => by rw [e]; simp; try omega)) (hatO.out.imp id (fun e => by rw [e]; (try simp); omega)) HC.out HX.out HE.out.2
      have HFIN := Lib.hid hfin
      clear hfin
      go_wp2_with fail
      go_ret
      exact ⟨ret_i64 HE.out.1.symm, HFIN.out⟩

theorem inserted_any {B : Nat} {T : Nat → Nat} {w : World} {r : Nat} {S : Sts} (h : SpecAt B T w r S) (hS : S.WF) (hB : B ≤ w.heap.size) (hm : S.homes.length ≤ 900) (k : Nat) (hk : k < S.regs.length) (x : ByteArray) :
    Calls Try.prog 27 #[.pointer (some ⟨r, 0, none⟩), .int .i64 k, .string x] w (InsPost B T w r S k x) := by
  by_cases hx : 0 ≤ findI (S.reg k).names (S.reg k).objs x
  · exact inserted_old h hS hB hm k hk x hx
  · exact inserted_new h hS hB hm k hk x (by omega)
end Go.Proofs.Ytipmpeekfajlcaa
