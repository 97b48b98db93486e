/- What a name more and a scope more do to the program's scopes in memory. -/
import Derived.Test.YtipmpeekfajlcaaImplMore
namespace Go.Proofs.Ytipmpeekfajlcaa
open Go.RowKit

theorem kids_set (S : Sts) (k : Nat) (R : Reg) (hs : List Int) (hk : k < S.regs.length) (hp : R.par = (S.reg k).par) (i : Int) (n : Nat) : (Sts.mk (S.regs.set k R) hs).kids i n = S.kids i n := by
  unfold Sts.kids
  congr 1
  funext j
  by_cases e : k = j
  · subst e; rw [Sts.reg_set_self _ _ _ _ hk, hp]
  · rw [Sts.reg_set_other _ _ _ _ _ e]
theorem par_set (S : Sts) (k : Nat) (R : Reg) (hs : List Int) (hk : k < S.regs.length) (hp : R.par = (S.reg k).par) (i : Nat) : ((Sts.mk (S.regs.set k R) hs).reg i).par = (S.reg i).par := by
  by_cases e : k = i
  · subst e; rw [Sts.reg_set_self _ _ _ _ hk, hp]
  · rw [Sts.reg_set_other _ _ _ _ _ e]

section
variable {B : Nat} {T : Nat → Nat} {w wa w1 : World} {r : Nat} {la oa : Option Addr} {lc oc : Nat} {p : Pos}

/-- A name more in scope k: the last object's, which had no home. -/
theorem ImplRep.moreName {S : Sts} {hs : List Int} (h : ImplRep B T w r S la oa lc oc p) (hh : S.homes = hs ++ [-1]) {k mb : Nat} (hk : k < S.regs.length) {x nm : ByteArray} {a : Addr} (hB : B ≤ w.heap.size)
    (hb : w1.heap[p.sb k]? = some (.cells (scCells (parA p.sb (S.reg k).par) (p.ka k) (S.kids k S.regs.length).length (p.kc k) (p.num k) (some mb)) 69 (0, 0)))
    (hm : MapRep w1 (some mb) ((S.reg k).names ++ [x]) ((S.reg k).objs ++ [(hs.length : Int)]) p.ob) (hmb : p.m k = some mb ∨ w.heap.size ≤ mb) (hml : mb < w1.heap.size)
    (ho : w1.heap[p.ob hs.length]? = some (.cells ((varCells nm a).setIfInBounds 0 (.pointer (some ⟨p.sb k, 0, none⟩))) 105 (0, 0)))
    (hchg : Chg (fun i => i = p.sb k ∨ p.m k = some i ∨ i = p.ob hs.length) w w1) :
    ∃ p', ImplRep B (upd T mb (6 + 4 * k)) w1 r ⟨S.regs.set k { S.reg k with names := (S.reg k).names ++ [x], objs := (S.reg k).objs ++ [(hs.length : Int)] }, hs ++ [(k : Int)]⟩ la oa lc oc p' ∧ Chg (fun b => T b ≠ 0) w w1 ∧ Ext T (upd T mb (6 + 4 * k)) w := by
  have hl : S.homes.length = hs.length + 1 := by rw [hh]; simp
  have hl' : (hs ++ [(k : Int)]).length = S.homes.length := by rw [hh]; simp
  have hon : hs.length < S.homes.length := by omega
  have hmT : ∀ b, (b = p.sb k ∨ p.m k = some b ∨ b = p.ob hs.length) → T b = 4 + 4 * k ∨ T b = 6 + 4 * k ∨ T b = 7 + 4 * hs.length := by
    intro b hb
    rcases hb with hb | hb | hb
    · rw [hb]; exact .inl (h.ts k hk)
    · exact .inr (.inl (h.tm k hk b hb))
    · rw [hb]; exact .inr (.inr (h.tj _ hon))
  have hM : ∀ {t : Nat}, t ≠ 4 + 4 * k → t ≠ 6 + 4 * k → t ≠ 7 + 4 * hs.length → ∀ b, (b = p.sb k ∨ p.m k = some b ∨ b = p.ob hs.length) → T b ≠ t := by
    intro t h1 h2 h3 b hb e
    have := hmT b hb
    omega
  have hz : T mb = 0 ∨ T mb = 6 + 4 * k := by
    rcases hmb with e | e
    · exact .inr (h.tm k hk mb e)
    · exact .inl (Decidable.byContradiction fun e' => by have := (h.fresh mb e').2; omega)
  have tagU : ∀ {b t' : Nat}, T b = t' → t' ≠ 0 → t' ≠ 6 + 4 * k → upd T mb (6 + 4 * k) b = t' := fun hb h0 h1 => upd_of T hb hz h0 h1
  let R : Reg := { S.reg k with names := (S.reg k).names ++ [x], objs := (S.reg k).objs ++ [(hs.length : Int)] }
  have hkids : ∀ (i : Int) n, (Sts.mk (S.regs.set k R) (hs ++ [(k : Int)])).kids i n = S.kids i n := fun i n => kids_set S k R _ hk rfl i n
  have hpar : ∀ i, ((Sts.mk (S.regs.set k R) (hs ++ [(k : Int)])).reg i).par = (S.reg i).par := fun i => par_set S k R _ hk rfl i
  refine ⟨{ p with m := fun i => if i = k then some mb else p.m i, oc := fun i => if i = hs.length then (varCells nm a).setIfInBounds 0 (.pointer (some ⟨p.sb k, 0, none⟩)) else p.oc i }, ?_, hchg.mono (fun b hb => .inl (by have := hmT b hb; omega)), Ext.upd (hz.elim (fun e => ?_) .inl) (by omega)⟩
  · refine { top := ?_, tr := tagU h.tr (by decide) (by omega), lrow := ?_, tl := ?_, orow := ?_, tob := ?_, sc := ?_, ts := ?_, krow := ?_, tk := ?_, mrep := ?_, tm := ?_, obj := ?_, tj := ?_, fresh := ?_ }
    · have := hchg.heapAt h.top (fun e => hM (t := 1) (by omega) (by omega) (by omega) _ e h.tr)
      rw [this]
      simp [hh]
    · have := row_keep hchg h.lrow h.tl (hM (by omega) (by omega) (by omega))
      simpa using this
    · intro g hg
      exact tagU (h.tl g (by simpa using hg)) (by decide) (by omega)
    · have := row_keep hchg h.orow h.tob (hM (by omega) (by omega) (by omega))
      show w1.ownsRow B 84 1 (.slice oa (hs ++ [(k : Int)]).length oc) (hs ++ [(k : Int)]).length ((List.range (hs ++ [(k : Int)]).length).map _)
      rw [hl']
      exact this
    · intro g hg
      have hg' : (Value.slice oa (hs ++ [(k : Int)]).length oc).ownBlock = some g := hg
      rw [hl'] at hg'
      exact tagU (h.tob g hg') (by decide) (by omega)
    · intro i hi
      have hi' : i < S.regs.length := by simpa using hi
      show w1.heap[p.sb i]? = some (.cells (scCells (parA p.sb ((Sts.mk (S.regs.set k R) (hs ++ [(k : Int)])).reg i).par) (p.ka i) ((Sts.mk (S.regs.set k R) (hs ++ [(k : Int)])).kids i (S.regs.set k R).length).length (p.kc i) (p.num i) (if i = k then some mb else p.m i)) 69 (0, 0))
      rw [hpar, hkids, List.length_set]
      by_cases e : i = k
      · subst e
        rw [if_pos rfl]
        exact hb
      · rw [if_neg e]
        exact hchg.heapAt (h.sc i hi') (fun e' => hM (t := 4 + 4 * i) (by omega) (by omega) (by omega) _ e' (h.ts i hi'))
    · intro i hi
      have hi' : i < S.regs.length := by simpa using hi
      exact tagU (h.ts i hi') (by omega) (by omega)
    · intro i hi
      have hi' : i < S.regs.length := by simpa using hi
      show w1.ownsRow B 37 1 (.slice (p.ka i) ((Sts.mk (S.regs.set k R) (hs ++ [(k : Int)])).kids i (S.regs.set k R).length).length (p.kc i)) ((Sts.mk (S.regs.set k R) (hs ++ [(k : Int)])).kids i (S.regs.set k R).length).length (((Sts.mk (S.regs.set k R) (hs ++ [(k : Int)])).kids i (S.regs.set k R).length).map fun c => ptrV (p.sb c))
      rw [hkids, List.length_set]
      exact row_keep hchg (h.krow i hi') (h.tk i hi') (hM (by omega) (by omega) (by omega))
    · intro i hi g hg
      have hi' : i < S.regs.length := by simpa using hi
      have hg' : (Value.slice (p.ka i) ((Sts.mk (S.regs.set k R) (hs ++ [(k : Int)])).kids i (S.regs.set k R).length).length (p.kc i)).ownBlock = some g := hg
      rw [hkids, List.length_set] at hg'
      exact tagU (h.tk i hi' g hg') (by omega) (by omega)
    · intro i hi
      have hi' : i < S.regs.length := by simpa using hi
      by_cases e : i = k
      · subst e
        simp only [if_pos]
        rw [Sts.reg_set_self _ _ _ _ hk]
        exact hm
      · simp only [if_neg e]
        rw [Sts.reg_set_other _ _ _ _ _ (fun e' => e e'.symm)]
        exact (h.mrep i hi').chg hchg (fun b e' hm' => hM (t := 6 + 4 * i) (by omega) (by omega) (by omega) b hm' (h.tm i hi' b e'))
    · intro i hi b e'
      have hi' : i < S.regs.length := by simpa using hi
      by_cases e : i = k
      · subst e
        simp only [if_pos] at e'
        cases e'
        exact upd_self _ _ _
      · simp only [if_neg e] at e'
        exact tagU (h.tm i hi' b e') (by omega) (by omega)
    · intro o ho'
      have ho2 : o < S.homes.length := by
        have : o < (hs ++ [(k : Int)]).length := ho'
        omega
      by_cases e : o = hs.length
      · subst e
        simp only [if_pos]
        refine ⟨ho, ?_⟩
        simp [varCells, parA_nat]
      · simp only [if_neg e]
        refine ⟨hchg.heapAt (h.obj o ho2).1 (fun e' => hM (t := 7 + 4 * o) (by omega) (by omega) (by omega) _ e' (h.tj o ho2)), ?_⟩
        rw [(h.obj o ho2).2, hh, List.getD_eq_getElem?_getD, List.getD_eq_getElem?_getD, List.getElem?_append_left (by omega), List.getElem?_append_left (by omega)]
    · intro o ho'
      have ho2 : o < S.homes.length := by
        have : o < (hs ++ [(k : Int)]).length := ho'
        omega
      exact tagU (h.tj o ho2) (by omega) (by omega)
    · intro b hb'
      by_cases e : b = mb
      · subst e
        refine ⟨?_, hml⟩
        rcases hmb with e' | e'
        · exact (h.fresh b (by rw [h.tm k hk b e']; omega)).1
        · omega
      · rw [upd_other _ _ e] at hb'
        have := h.fresh b hb'
        have := hchg.size
        exact ⟨by omega, by omega⟩
  · rcases hmb with e' | e'
    · exact .inl (h.tm k hk mb e')
    · exact .inr e'

theorem kids_snoc (S : Sts) (R : Reg) (hs : List Int) (i : Int) : (Sts.mk (S.regs ++ [R]) hs).kids i (S.regs.length + 1) = S.kids i S.regs.length ++ (if R.par = i then [S.regs.length] else []) := by
  unfold Sts.kids
  rw [List.range_succ, List.filter_append]
  congr 1
  · apply List.filter_congr
    intro j hj
    rw [List.mem_range] at hj
    rw [Sts.reg_snoc_old S j R hs hj]
  · rw [List.filter_cons, Sts.reg_snoc_new, List.filter_nil]
    by_cases e : R.par = i
    · simp [e]
    · simp [e]
theorem kids_none (S : Sts) (hS : S.WF) : S.kids (S.regs.length : Int) S.regs.length = [] := by
  unfold Sts.kids
  rw [List.filter_eq_nil_iff]
  intro j hj
  rw [List.mem_range] at hj
  have := hS.par j hj
  simp
  omega

/-- A scope more. -/
theorem ImplRep.moreScope {S : Sts} {wB : World} (h : ImplRep B T w r S la oa lc oc p) (hS : S.WF) {par : Int} (hp : par = -1 ∨ S.has par) {sN gk ck g1 c1 : Nat} {num : Int} (hB : B ≤ w.heap.size)
    (hA : Chg (fun b => ∃ k : Nat, par = (k : Int) ∧ k < S.regs.length ∧ (T b = 4 + 4 * k ∨ T b = 5 + 4 * k)) w wa)
    (hsN : w.heap.size ≤ sN) (hN : wa.heap[sN]? = some (.cells (scCells (parA p.sb par) none 0 0 num none) 69 (0, 0)))
    (hk : ∀ k : Nat, par = (k : Int) → k < S.regs.length → wa.heap[p.sb k]? = some (.cells (scCells (parA p.sb (S.reg k).par) (some ⟨gk, 0, none⟩) ((S.kids k S.regs.length).length + 1) ck (p.num k) (p.m k)) 69 (0, 0)) ∧
      wa.ownsRow B 37 1 (.slice (some ⟨gk, 0, none⟩) ((S.kids k S.regs.length).length + 1) ck) ((S.kids k S.regs.length).length + 1) (((S.kids k S.regs.length).map fun c => ptrV (p.sb c)) ++ [ptrV sN]) ∧ (T gk = 5 + 4 * k ∨ w.heap.size ≤ gk) ∧ gk ≠ sN)
    (hAB : Chg (fun _ => False) wa wB) (hgrow : wB.grownBy w1 (Value.slice la S.regs.length lc).ownBlock)
    (hown : w1.ownsRow B 37 1 (.slice (some ⟨g1, 0, none⟩) (S.regs.length + 1) c1) (S.regs.length + 1) ((List.range S.regs.length).map (fun i => ptrV (p.sb i)) ++ [ptrV sN]))
    (hat : (Value.slice la S.regs.length lc).ownBlock = some g1 ∨ g1 = wB.heap.size) :
    let w2 := w1.setCell ⟨r, 0, none⟩ (.slice (some ⟨g1, 0, none⟩) (S.regs.length + 1) c1)
    ∃ T' p', ImplRep B T' w2 r ⟨S.regs ++ [⟨par, [], []⟩], S.homes⟩ (some ⟨g1, 0, none⟩) oa c1 oc p' ∧ Chg (fun b => T b ≠ 0) w w2 ∧ Ext T T' w := by
  intro w2
  have zA := hA.size
  have zB := hAB.size
  have hNl : sN < wa.heap.size := (Array.getElem?_eq_some_iff.1 hN).1
  have hla := h.tl
  have hat' : (T g1 = 2 ∧ g1 < w.heap.size) ∨ wa.heap.size ≤ g1 := hat.imp (fun e => ⟨hla g1 e, (h.fresh g1 (by rw [hla g1 e]; decide)).2⟩) (fun e => by omega)
  have hrs : r < w.heap.size := (h.fresh r (by rw [h.tr]; decide)).2
  have new0 : ∀ b, w.heap.size ≤ b → T b = 0 := fun b hb => Decidable.byContradiction fun e => by have := (h.fresh b e).2; omega
  have hg1N : g1 ≠ sN := by rcases hat' with e | e <;> omega
  have hg1r : g1 ≠ r := by
    intro e
    subst e
    rcases hat' with e | e
    · have := h.tr; omega
    · omega
  have hg1z : T g1 = 0 ∨ T g1 = 2 := hat'.elim (fun e => .inr e.1) (fun e => .inl (new0 g1 (by omega)))
  have hg1k : ∀ k : Nat, par = (k : Int) → k < S.regs.length → gk ≠ g1 := by
    intro k e1 e2 e
    obtain ⟨_, hrow, ht, _⟩ := hk k e1 e2
    have := (hrow.lt gk rfl).2
    rw [e] at this ht
    rcases hat' with e' | e'
    · omega
    · omega
  let T1 : Nat → Nat := if 0 ≤ par then upd T gk (5 + 4 * par.toNat) else T
  let T2 : Nat → Nat := upd (upd T1 g1 2) sN (4 + 4 * S.regs.length)
  have hT1 : ∀ b t', T b = t' → t' ≠ 0 → (∀ k : Nat, par = (k : Int) → t' ≠ 5 + 4 * k) → T1 b = t' := by
    intro b t' hb h0 hn
    by_cases e : 0 ≤ par
    · have hkk : par = (par.toNat : Int) := by omega
      have hlt : par.toNat < S.regs.length := by
        rcases hp with hp | hp
        · omega
        · have := hp.2; omega
      simp only [T1, if_pos e]
      refine upd_of T hb ?_ h0 (hn _ hkk)
      rcases (hk _ hkk hlt).2.2.1 with e' | e'
      · exact .inr e'
      · exact .inl (new0 gk e')
    · simp only [T1, if_neg e]
      exact hb
  have hT1z : ∀ b, T b = 0 → (∀ k : Nat, par = (k : Int) → k < S.regs.length → b ≠ gk) → T1 b = 0 := by
    intro b hb hn
    by_cases e : 0 ≤ par
    · have hkk : par = (par.toNat : Int) := by omega
      have hlt : par.toNat < S.regs.length := by
        rcases hp with hp | hp
        · omega
        · have := hp.2; omega
      simp only [T1, if_pos e]
      rw [upd_other _ _ (hn _ hkk hlt)]
      exact hb
    · simp only [T1, if_neg e]
      exact hb
  have hT1g : T1 g1 = 0 ∨ T1 g1 = 2 := by
    rcases hg1z with e | e
    · exact .inl (hT1z g1 e (fun k e1 e2 => (hg1k k e1 e2).symm))
    · exact .inr (hT1 g1 2 e (by decide) (fun k _ => by omega))
  have hT1N : T1 sN = 0 := hT1z sN (new0 sN hsN) (fun k e1 e2 => (hk k e1 e2).2.2.2.symm)
  have hT1N' : upd T1 g1 2 sN = 0 := by rw [upd_other _ _ (Ne.symm hg1N)]; exact hT1N
  have tagU : ∀ {b t' : Nat}, T b = t' → t' ≠ 0 → t' ≠ 2 → t' ≠ 4 + 4 * S.regs.length → (∀ k : Nat, par = (k : Int) → t' ≠ 5 + 4 * k) → T2 b = t' := by
    intro b t' hb h0 h1 h2 h3
    exact upd_of _ (upd_of _ (hT1 b t' hb h0 h3) hT1g h0 h1) (.inl hT1N') h0 h2
  have k1 : Chg (fun b => T b = 2) wa w1 := (hAB.mono (fun _ f => f.elim)).grown hgrow (fun i hi => .inl (hla i hi))
  have k2 : Chg (fun b => b = r ∨ T b = 2) wa w2 := (k1.mono (fun i e => .inl (.inr e))).setCell (p := ⟨r, 0, none⟩) (.inl (.inl rfl)) _
  have k02 : Chg (fun b => (∃ k : Nat, par = (k : Int) ∧ k < S.regs.length ∧ (T b = 4 + 4 * k ∨ T b = 5 + 4 * k)) ∨ b = r ∨ T b = 2) w w2 := (hA.mono (fun i e => .inl (.inl e))).trans k2 (fun i e => .inl (.inr e))
  have hM : ∀ {t : Nat}, t ≠ 1 → t ≠ 2 → (∀ k : Nat, par = (k : Int) → t ≠ 4 + 4 * k ∧ t ≠ 5 + 4 * k) → ∀ b, ((∃ k : Nat, par = (k : Int) ∧ k < S.regs.length ∧ (T b = 4 + 4 * k ∨ T b = 5 + 4 * k)) ∨ b = r ∨ T b = 2) → T b ≠ t := by
    intro t h1 h2 h3 b hb e
    rcases hb with ⟨k, e1, _, hb⟩ | hb | hb
    · have := h3 k e1
      omega
    · subst hb; rw [h.tr] at e; omega
    · omega
  have hlen : (S.regs ++ [(⟨par, [], []⟩ : Reg)]).length = S.regs.length + 1 := by simp
  have hsb : ∀ i, i < S.regs.length → (if i = S.regs.length then sN else p.sb i) = p.sb i := fun i hi => if_neg (by omega)
  have hparA : ∀ q : Int, q < S.regs.length → parA (fun i => if i = S.regs.length then sN else p.sb i) q = parA p.sb q := by
    intro q hq
    unfold parA
    by_cases e : 0 ≤ q
    · rw [if_pos e, if_pos e]
      have e1 := hsb q.toNat (by omega)
      simp only [e1]
    · rw [if_neg e, if_neg e]
  have hk2 : ∀ k : Nat, par = (k : Int) → k < S.regs.length → w2.heap[p.sb k]? = some (.cells (scCells (parA p.sb (S.reg k).par) (some ⟨gk, 0, none⟩) ((S.kids k S.regs.length).length + 1) ck (p.num k) (p.m k)) 69 (0, 0)) ∧
      w2.ownsRow B 37 1 (.slice (some ⟨gk, 0, none⟩) ((S.kids k S.regs.length).length + 1) ck) ((S.kids k S.regs.length).length + 1) (((S.kids k S.regs.length).map fun c => ptrV (p.sb c)) ++ [ptrV sN]) ∧ T2 gk = 5 + 4 * k := by
    intro k e1 e2
    obtain ⟨q1, q2, q3, q4⟩ := hk k e1 e2
    have hgz : ¬ (gk = r ∨ T gk = 2) := by
      rintro (e | e)
      · rw [e, h.tr] at q3; omega
      · rcases q3 with q3 | q3
        · omega
        · rw [new0 gk q3] at e; omega
    refine ⟨k2.heapAt q1 (fun e => ?_), k2.row q2 (fun g hg e => ?_), ?_⟩
    · have := h.ts k e2
      rcases e with e | e
      · rw [e, h.tr] at this; omega
      · omega
    · cases hg
      exact hgz e
    · have hup : T1 gk = 5 + 4 * k := by
        have e0 : 0 ≤ par := by omega
        simp only [T1, if_pos e0]
        rw [upd_self]
        omega
      exact upd_of _ (upd_of _ hup hT1g (by omega) (by omega)) (.inl hT1N') (by omega) (by omega)
  refine ⟨T2, { sb := fun i => if i = S.regs.length then sN else p.sb i, ka := fun i => if i = S.regs.length then none else if par = (i : Int) then some ⟨gk, 0, none⟩ else p.ka i,
                kc := fun i => if i = S.regs.length then 0 else if par = (i : Int) then ck else p.kc i, num := fun i => if i = S.regs.length then num else p.num i,
                m := fun i => if i = S.regs.length then none else p.m i, ob := p.ob, oc := p.oc }, ?_, k02.mono (fun b hb => .inl ?_), fun b hb => ?_⟩
  · refine { top := ?_, tr := tagU h.tr (by decide) (by decide) (by omega) (fun k _ => by omega), lrow := ?_, tl := ?_, orow := ?_, tob := ?_, sc := ?_, ts := ?_, krow := ?_, tk := ?_, mrep := ?_, tm := ?_, obj := ?_, tj := ?_, fresh := ?_ }
    · have e1 : wa.heap[r]? = some (.cells #[.slice la S.regs.length lc, .slice oa S.homes.length oc] 60 (0, 0)) := hA.heapAt h.top (fun ⟨k, _, _, e⟩ => by rw [h.tr] at e; omega)
      have e2 := k1.heapAt e1 (by rw [h.tr]; decide)
      rw [heap_setCell_same w1 r 0 _ 60 _ e2]
      simp
    · show w2.ownsRow B 37 1 (.slice (some ⟨g1, 0, none⟩) (S.regs ++ [(⟨par, [], []⟩ : Reg)]).length c1) (S.regs ++ [(⟨par, [], []⟩ : Reg)]).length ((List.range (S.regs ++ [(⟨par, [], []⟩ : Reg)]).length).map fun i => ptrV (if i = S.regs.length then sN else p.sb i))
      have e1 : ((List.range (S.regs.length + 1)).map fun i => ptrV (if i = S.regs.length then sN else p.sb i)) = (List.range S.regs.length).map (fun i => ptrV (p.sb i)) ++ [ptrV sN] := by
        simp only [List.range_succ, List.map_append, List.map_cons, List.map_nil, if_pos]
        congr 1
        apply List.map_congr_left
        intro i hi
        rw [List.mem_range] at hi
        rw [hsb i hi]
      rw [hlen, e1]
      have k3 : Chg (fun b => b = r) w1 w2 := (Chg.refl (fun b => b = r) w1).setCell (p := ⟨r, 0, none⟩) (.inl rfl) _
      exact k3.row hown (fun g hg e => by cases hg; exact hg1r e)
    · intro g hg
      have e' : g1 = g := by simpa [Value.ownBlock] using hg
      subst e'
      show upd (upd T1 g1 2) sN _ g1 = 2
      rw [upd_other _ _ hg1N]
      exact upd_self _ _ _
    · exact row_keep k02 h.orow h.tob (hM (by decide) (by decide) (fun k _ => by omega))
    · exact fun g hg => tagU (h.tob g hg) (by decide) (by decide) (by omega) (fun k _ => by omega)
    · intro i hi
      have hi' : i < S.regs.length + 1 := by rw [← hlen]; exact hi
      show w2.heap[if i = S.regs.length then sN else p.sb i]? = some (.cells (scCells (parA (fun i => if i = S.regs.length then sN else p.sb i) ((Sts.mk (S.regs ++ [(⟨par, [], []⟩ : Reg)]) S.homes).reg i).par) (if i = S.regs.length then none else if par = (i : Int) then some ⟨gk, 0, none⟩ else p.ka i) ((Sts.mk (S.regs ++ [(⟨par, [], []⟩ : Reg)]) S.homes).kids i (S.regs ++ [(⟨par, [], []⟩ : Reg)]).length).length (if i = S.regs.length then 0 else if par = (i : Int) then ck else p.kc i) (if i = S.regs.length then num else p.num i) (if i = S.regs.length then none else p.m i)) 69 (0, 0))
      rw [hlen, kids_snoc]
      by_cases e : i = S.regs.length
      · subst e
        rw [if_pos rfl, if_pos rfl, if_pos rfl, if_pos rfl, if_pos rfl, Sts.reg_snoc_new, kids_none S hS]
        have hpl : par < S.regs.length := by
          rcases hp with hp | hp
          · omega
          · exact hp.2
        rw [hparA par hpl, if_neg (by simp; omega)]
        exact k2.heapAt hN (fun e => by
          rcases e with e | e
          · omega
          · rw [new0 sN hsN] at e; omega)
      · have hi2 : i < S.regs.length := by omega
        rw [if_neg e, if_neg e, if_neg e, if_neg e, if_neg e, Sts.reg_snoc_old _ _ _ _ hi2, hparA _ (by have := hS.par i hi2; omega)]
        by_cases e2 : par = (i : Int)
        · rw [if_pos e2, if_pos e2, if_pos e2]
          have := (hk2 i e2 hi2).1
          simpa using this
        · rw [if_neg e2, if_neg e2, if_neg e2]
          have := k02.heapAt (h.sc i hi2) (fun e' => hM (t := 4 + 4 * i) (by omega) (by omega) (fun k e1 => by omega) _ e' (h.ts i hi2))
          simpa using this
    · intro i hi
      have hi' : i < S.regs.length + 1 := by rw [← hlen]; exact hi
      by_cases e : i = S.regs.length
      · subst e
        simp only [if_pos]
        exact upd_self _ _ _
      · simp only [if_neg e]
        exact tagU (h.ts i (by omega)) (by omega) (by omega) (by omega) (fun k _ => by omega)
    · intro i hi
      have hi' : i < S.regs.length + 1 := by rw [← hlen]; exact hi
      show w2.ownsRow B 37 1 (.slice (if i = S.regs.length then none else if par = (i : Int) then some ⟨gk, 0, none⟩ else p.ka i) ((Sts.mk (S.regs ++ [(⟨par, [], []⟩ : Reg)]) S.homes).kids i (S.regs ++ [(⟨par, [], []⟩ : Reg)]).length).length (if i = S.regs.length then 0 else if par = (i : Int) then ck else p.kc i)) ((Sts.mk (S.regs ++ [(⟨par, [], []⟩ : Reg)]) S.homes).kids i (S.regs ++ [(⟨par, [], []⟩ : Reg)]).length).length (((Sts.mk (S.regs ++ [(⟨par, [], []⟩ : Reg)]) S.homes).kids i (S.regs ++ [(⟨par, [], []⟩ : Reg)]).length).map fun c => ptrV (if c = S.regs.length then sN else p.sb c))
      rw [hlen, kids_snoc]
      have hmap : ∀ j : Int, (S.kids j S.regs.length).map (fun c => ptrV (if c = S.regs.length then sN else p.sb c)) = (S.kids j S.regs.length).map fun c => ptrV (p.sb c) := by
        intro j
        apply List.map_congr_left
        intro c hc
        have : c < S.regs.length := by
          unfold Sts.kids at hc
          exact List.mem_range.1 (List.mem_filter.1 hc).1
        rw [hsb c this]
      by_cases e : i = S.regs.length
      · subst e
        rw [if_pos rfl, if_pos rfl, kids_none S hS, if_neg (by
          have hpl : par < S.regs.length := by
            rcases hp with hp | hp
            · omega
            · exact hp.2
          simp; omega)]
        exact ⟨rfl, .inl ⟨rfl, rfl⟩⟩
      · have hi2 : i < S.regs.length := by omega
        rw [if_neg e, if_neg e]
        by_cases e2 : par = (i : Int)
        · rw [if_pos e2, if_pos e2, if_pos e2, List.map_append, hmap]
          have := (hk2 i e2 hi2).2.1
          simpa using this
        · rw [if_neg e2, if_neg e2, if_neg e2, List.append_nil, hmap]
          exact row_keep k02 (h.krow i hi2) (h.tk i hi2) (hM (by omega) (by omega) (fun k e1 => by omega))
    · intro i hi g hg
      have hi' : i < S.regs.length + 1 := by rw [← hlen]; exact hi
      have hg' : (Value.slice (if i = S.regs.length then none else if par = (i : Int) then some ⟨gk, 0, none⟩ else p.ka i) ((Sts.mk (S.regs ++ [(⟨par, [], []⟩ : Reg)]) S.homes).kids i (S.regs ++ [(⟨par, [], []⟩ : Reg)]).length).length (if i = S.regs.length then 0 else if par = (i : Int) then ck else p.kc i)).ownBlock = some g := hg
      rw [hlen, kids_snoc] at hg'
      by_cases e : i = S.regs.length
      · subst e
        rw [if_pos rfl] at hg'
        cases hg'
      · have hi2 : i < S.regs.length := by omega
        rw [if_neg e, if_neg e] at hg'
        by_cases e2 : par = (i : Int)
        · rw [if_pos e2, if_pos e2] at hg'
          have e3 : gk = g := by simpa [Value.ownBlock] using hg'
          subst e3
          exact (hk2 i e2 hi2).2.2
        · rw [if_neg e2, if_neg e2, if_neg e2, List.append_nil] at hg'
          exact tagU (h.tk i hi2 g hg') (by omega) (by omega) (by omega) (fun k e1 => by omega)
    · intro i hi
      have hi' : i < S.regs.length + 1 := by rw [← hlen]; exact hi
      by_cases e : i = S.regs.length
      · subst e
        simp only [if_pos]
        rw [Sts.reg_snoc_new]
        exact .inl ⟨rfl, rfl⟩
      · have hi2 : i < S.regs.length := by omega
        simp only [if_neg e]
        rw [Sts.reg_snoc_old _ _ _ _ hi2]
        exact (h.mrep i hi2).chg k02 (fun b e' hm' => hM (t := 6 + 4 * i) (by omega) (by omega) (fun k _ => by omega) b hm' (h.tm i hi2 b e'))
    · intro i hi b e'
      have hi' : i < S.regs.length + 1 := by rw [← hlen]; exact hi
      by_cases e : i = S.regs.length
      · subst e
        simp only [if_pos] at e'
        cases e'
      · simp only [if_neg e] at e'
        exact tagU (h.tm i (by omega) b e') (by omega) (by omega) (by omega) (fun k _ => by omega)
    · intro o ho
      refine ⟨k02.heapAt (h.obj o ho).1 (fun e' => hM (t := 7 + 4 * o) (by omega) (by omega) (fun k _ => by omega) _ e' (h.tj o ho)), ?_⟩
      have ho' : o < S.homes.length := ho
      have hb : S.homes.getD o (-1) < S.regs.length := by
        rw [List.getD_eq_getElem?_getD, List.getElem?_eq_getElem ho']
        exact (hS.homes _ (List.getElem_mem ho')).2
      have := (h.obj o ho).2
      show (p.oc o)[0]? = some (.pointer (parA (fun i => if i = S.regs.length then sN else p.sb i) (S.homes.getD o (-1))))
      rw [hparA _ hb]
      exact this
    · exact fun o ho => tagU (h.tj o ho) (by omega) (by omega) (by omega) (fun k _ => by omega)
    · intro b hb
      have hs : w2.heap.size = w1.heap.size := by simp [w2, World.setCell]
      rw [hs]
      have z1 := k1.size
      have hb' : upd (upd T1 g1 2) sN (4 + 4 * S.regs.length) b ≠ 0 := hb
      by_cases e : b = sN
      · subst e
        exact ⟨by omega, by omega⟩
      · rw [upd_other _ _ e] at hb'
        by_cases e' : b = g1
        · subst e'
          exact hown.lt b rfl
        · rw [upd_other _ _ e'] at hb'
          by_cases e2 : T b = 0
          · have : ∃ k : Nat, par = (k : Int) ∧ k < S.regs.length ∧ b = gk := Classical.byContradiction fun hno => hb' (hT1z b e2 (fun k q1 q2 q3 => hno ⟨k, q1, q2, q3⟩))
            obtain ⟨k, q1, q2, rfl⟩ := this
            have := (hk k q1 q2).2.1.lt b rfl
            exact ⟨this.1, by omega⟩
          · have := h.fresh b e2
            exact ⟨this.1, by omega⟩
  · rcases hb with ⟨k, _, _, hb⟩ | hb | hb
    · omega
    · subst hb; rw [h.tr]; decide
    · rw [hb]; decide
  · have hb' : upd (upd T1 g1 2) sN (4 + 4 * S.regs.length) b ≠ 0 := hb
    by_cases e : b = sN
    · subst e; exact .inr hsN
    · rw [upd_other _ _ e] at hb'
      by_cases e' : b = g1
      · subst e'
        rcases hat' with h' | h'
        · exact .inl (by omega)
        · exact .inr (by omega)
      · rw [upd_other _ _ e'] at hb'
        by_cases e2 : T b = 0
        · have : ∃ k : Nat, par = (k : Int) ∧ k < S.regs.length ∧ b = gk := Classical.byContradiction fun hno => hb' (hT1z b e2 (fun k q1 q2 q3 => hno ⟨k, q1, q2, q3⟩))
          obtain ⟨k, q1, q2, rfl⟩ := this
          rcases (hk k q1 q2).2.2.1 with h' | h'
          · exact .inl (by omega)
          · exact .inr h'
        · exact .inl e2
end
end Go.Proofs.Ytipmpeekfajlcaa
