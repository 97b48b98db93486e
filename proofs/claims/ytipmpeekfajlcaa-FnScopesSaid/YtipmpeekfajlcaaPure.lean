/- The scopes in plain Lean: a list of scopes, each with its parent, its names and the numbers of its objects, and the homes of the objects; what one step gives. -/
import Derived.KernelRfl
import Derived.Laws.Strings
namespace Go.Proofs.Ytipmpeekfajlcaa

/-- A scope: the number of its parent (-1: none), its names, its objects. -/
structure Reg where
  par : Int
  names : List ByteArray
  objs : List Int
  deriving Inhabited

/-- The scopes, and for each object the scope that it belongs to (-1: none). -/
structure Sts where
  regs : List Reg
  homes : List Int

/-- A step. -/
structure Stp where
  kind : Int
  scope : Int
  name : ByteArray
  index : Int

/-- What a step gives. -/
abbrev Got := Int × List ByteArray

/-- The number beside a name, the first one; -1 if the name is not there. -/
def findI : List ByteArray → List Int → ByteArray → Int
  | n :: ns, o :: os, x => if n = x then o else findI ns os x
  | _, _, _ => -1

/-- The scope with a number. -/
def Sts.reg (S : Sts) (k : Nat) : Reg := S.regs.getD k default

def Sts.has (S : Sts) (k : Int) : Prop := 0 ≤ k ∧ k < S.regs.length
instance (S : Sts) (k : Int) : Decidable (S.has k) := inferInstanceAs (Decidable (_ ∧ _))

/-- The scopes in scope k among the first n. -/
def Sts.kids (S : Sts) (k : Int) (n : Nat) : List Nat := (List.range n).filter fun i => decide ((S.reg i).par = k)

/-- b stands before a in Go's order of texts. -/
def less (a b : ByteArray) : Bool := Op.bytesLess a.toList b.toList

/-- A text put in its place in a list. -/
def insertS (x : ByteArray) : List ByteArray → List ByteArray
  | [] => [x]
  | y :: r => if less y x = true then y :: insertS x r else x :: y :: r

def isort (xs : List ByteArray) : List ByteArray := xs.foldl (fun out x => insertS x out) []

/-- An insertion of a new object with a name into scope k. -/
def Sts.insert (S : Sts) (k : Nat) (x : ByteArray) : Sts :=
  if 0 ≤ findI (S.reg k).names (S.reg k).objs x then { S with homes := S.homes ++ [-1] }
  else { regs := S.regs.set k { S.reg k with names := (S.reg k).names ++ [x], objs := (S.reg k).objs ++ [(S.homes.length : Int)] }, homes := S.homes ++ [(k : Int)] }

/-- What was there. -/
def Sts.old (S : Sts) (k : Nat) (x : ByteArray) : Int :=
  if 0 ≤ findI (S.reg k).names (S.reg k).objs x then findI (S.reg k).names (S.reg k).objs x else -1

/-- A step's gift and what it leaves; none: the step may not be taken. -/
def stepS (S : Sts) (s : Stp) : Option (Got × Sts) :=
  if s.kind = 0 then
    if (s.scope = -1 ∨ S.has s.scope) ∧ S.regs.length < 30 then some ((0, []), { S with regs := S.regs ++ [⟨s.scope, [], []⟩] }) else none
  else if s.kind = 8 then
    if 0 ≤ s.index ∧ s.index < S.homes.length then some ((S.homes.getD s.index.toNat 0, []), S) else none
  else if S.has s.scope then
    if s.kind = 1 then some ((S.old s.scope.toNat s.name, []), S.insert s.scope.toNat s.name)
    else if s.kind = 2 then some ((findI (S.reg s.scope.toNat).names (S.reg s.scope.toNat).objs s.name, []), S)
    else if s.kind = 3 then some ((0, isort (S.reg s.scope.toNat).names), S)
    else if s.kind = 4 then some (((S.reg s.scope.toNat).names.length, []), S)
    else if s.kind = 5 then some (((S.kids s.scope S.regs.length).length, []), S)
    else if s.kind = 6 then
      if 0 ≤ s.index ∧ s.index < (S.kids s.scope S.regs.length).length then some ((((S.kids s.scope S.regs.length).getD s.index.toNat 0 : Nat), []), S) else none
    else if s.kind = 7 then some (((S.reg s.scope.toNat).par, []), S)
    else none
  else none

/-- The gifts of many steps, and what they leave. -/
def runS (S : Sts) : List Stp → Option (List Got × Sts)
  | [] => some ([], S)
  | s :: r => match stepS S s with
    | none => none
    | some (g, S1) => match runS S1 r with
      | none => none
      | some (gs, S2) => some (g :: gs, S2)

/-- What holds of all that steps leave: bounds, and no name twice. -/
structure Sts.WF (S : Sts) : Prop where
  regs30 : S.regs.length ≤ 30
  par : ∀ i, i < S.regs.length → -1 ≤ (S.reg i).par ∧ (S.reg i).par < i
  len : ∀ i, i < S.regs.length → (S.reg i).names.length = (S.reg i).objs.length
  few : ∀ i, i < S.regs.length → (S.reg i).names.length ≤ S.homes.length
  objs : ∀ i, i < S.regs.length → ∀ o ∈ (S.reg i).objs, 0 ≤ o ∧ o < S.homes.length
  nodup : ∀ i, i < S.regs.length → (S.reg i).names.Nodup
  homes : ∀ h ∈ S.homes, -1 ≤ h ∧ h < S.regs.length

def Sts.empty : Sts := ⟨[], []⟩

theorem Sts.empty_wf : Sts.empty.WF := by
  constructor <;> simp [Sts.empty]

theorem findI_snoc_old (x y : ByteArray) (o : Int) : ∀ (ns : List ByteArray) (os : List Int), ns.length = os.length → y ∈ ns → findI (ns ++ [x]) (os ++ [o]) y = findI ns os y
  | [], _, _, h => by simp at h
  | n :: ns, p :: os, h, hy => by
    simp only [List.cons_append, findI]
    by_cases e : n = y
    · rw [if_pos e, if_pos e]
    · rw [if_neg e, if_neg e]
      rcases List.mem_cons.1 hy with h' | h'
      · exact absurd h'.symm e
      · exact findI_snoc_old x y o ns os (by simpa using h) h'
  | _ :: _, [], h, _ => by simp at h

theorem findI_snoc_new (x y : ByteArray) (o : Int) : ∀ (ns : List ByteArray) (os : List Int), ns.length = os.length → y ∉ ns → findI (ns ++ [x]) (os ++ [o]) y = if x = y then o else -1
  | [], [], _, _ => by simp [findI]
  | n :: ns, p :: os, h, hy => by
    simp only [List.cons_append, findI]
    rw [if_neg (fun e => hy (by simp [e]))]
    exact findI_snoc_new x y o ns os (by simpa using h) (fun e => hy (by simp [e]))
  | _ :: _, [], h, _ => by simp at h
  | [], _ :: _, h, _ => by simp at h

theorem findI_not (x : ByteArray) : ∀ (ns : List ByteArray) (os : List Int), x ∉ ns → findI ns os x = -1
  | [], _, _ => by simp [findI]
  | _ :: _, [], _ => by simp [findI]
  | n :: ns, o :: os, h => by
    have h1 : ¬ n = x := fun e => h (by simp [e])
    have h2 : x ∉ ns := fun e => h (by simp [e])
    rw [findI, if_neg h1]
    exact findI_not x ns os h2

theorem findI_mem (x : ByteArray) : ∀ (ns : List ByteArray) (os : List Int), ns.length = os.length → x ∈ ns → findI ns os x ∈ os
  | [], _, _, h => by simp at h
  | n :: ns, o :: os, hl, h => by
    rw [findI]
    by_cases e : n = x
    · rw [if_pos e]; simp
    · rw [if_neg e]
      have h2 : x ∈ ns := by
        rcases List.mem_cons.1 h with h | h
        · exact absurd h.symm e
        · exact h
      exact List.mem_cons_of_mem _ (findI_mem x ns os (by simpa using hl) h2)
  | _ :: _, [], hl, _ => by simp at hl

theorem Sts.reg_set_self (S : Sts) (k : Nat) (R : Reg) (hs : List Int) (hk : k < S.regs.length) : (Sts.mk (S.regs.set k R) hs).reg k = R := by
  simp [Sts.reg, hk]
theorem Sts.reg_set_other (S : Sts) (k i : Nat) (R : Reg) (hs : List Int) (h : k ≠ i) : (Sts.mk (S.regs.set k R) hs).reg i = S.reg i := by
  simp [Sts.reg, h]
theorem Sts.reg_snoc_old (S : Sts) (i : Nat) (R : Reg) (hs : List Int) (h : i < S.regs.length) : (Sts.mk (S.regs ++ [R]) hs).reg i = S.reg i := by
  simp [Sts.reg, List.getElem?_append_left h]
theorem Sts.reg_snoc_new (S : Sts) (R : Reg) (hs : List Int) : (Sts.mk (S.regs ++ [R]) hs).reg S.regs.length = R := by
  simp [Sts.reg]
theorem Sts.reg_homes (S : Sts) (i : Nat) (hs : List Int) : (Sts.mk S.regs hs).reg i = S.reg i := rfl

/-- The name is there just where a number is found. -/
theorem Sts.found_iff {S : Sts} (h : S.WF) {k : Nat} (hk : k < S.regs.length) (x : ByteArray) : 0 ≤ findI (S.reg k).names (S.reg k).objs x ↔ x ∈ (S.reg k).names := by
  constructor
  · intro h0
    rcases Classical.em (x ∈ (S.reg k).names) with e | e
    · exact e
    · rw [findI_not x _ _ e] at h0
      omega
  · intro hx
    exact (h.objs k hk _ (findI_mem x _ _ (h.len k hk) hx)).1

theorem Sts.WF.insert {S : Sts} (h : S.WF) (k : Nat) (hk : k < S.regs.length) (x : ByteArray) : (S.insert k x).WF := by
  unfold Sts.insert
  split
  · refine ⟨h.regs30, h.par, h.len, ?_, ?_, h.nodup, ?_⟩
    · intro i hi
      have := h.few i hi
      simp only [Sts.reg_homes, List.length_append, List.length_singleton]
      omega
    · intro i hi o ho
      have := h.objs i hi o ho
      simp only [List.length_append, List.length_singleton]
      omega
    · intro o ho
      rcases List.mem_append.1 ho with ho | ho
      · exact h.homes o ho
      · simp at ho
        subst ho
        show (-1 : Int) ≤ -1 ∧ (-1 : Int) < S.regs.length
        omega
  · rename_i hf
    have hx : x ∉ (S.reg k).names := fun e => hf ((Sts.found_iff h hk x).2 e)
    have hl := h.len k hk
    have key : ∀ (P : Reg → Prop), (∀ i, i < S.regs.length → P (S.reg i)) → P { S.reg k with names := (S.reg k).names ++ [x], objs := (S.reg k).objs ++ [(S.homes.length : Int)] } →
        ∀ i, i < S.regs.length → P ((Sts.mk (S.regs.set k { S.reg k with names := (S.reg k).names ++ [x], objs := (S.reg k).objs ++ [(S.homes.length : Int)] }) (S.homes ++ [(k : Int)])).reg i) := by
      intro P h1 h2 i hi
      by_cases e : k = i
      · subst e; rw [Sts.reg_set_self _ _ _ _ hk]; exact h2
      · rw [Sts.reg_set_other _ _ _ _ _ e]; exact h1 i hi
    refine ⟨by simpa using h.regs30, ?_, ?_, ?_, ?_, ?_, ?_⟩
    · intro i hi
      have hi' : i < S.regs.length := by simpa using hi
      by_cases e : k = i
      · subst e; rw [Sts.reg_set_self _ _ _ _ hk]; exact h.par k hk
      · rw [Sts.reg_set_other _ _ _ _ _ e]; exact h.par i hi'
    · intro i hi
      exact key (fun R => R.names.length = R.objs.length) h.len (by simp [hl]) i (by simpa using hi)
    · intro i hi
      exact key (fun R => R.names.length ≤ (S.homes ++ [(k : Int)]).length) (fun j hj => by have := h.few j hj; simp; omega) (by have := h.few k hk; simp; omega) i (by simpa using hi)
    · intro i hi
      refine key (fun R => ∀ o ∈ R.objs, 0 ≤ o ∧ o < (S.homes ++ [(k : Int)]).length) (fun j hj o ho => ?_) (fun o ho => ?_) i (by simpa using hi)
      · have := h.objs j hj o ho
        simp only [List.length_append, List.length_singleton]
        omega
      · simp only [List.length_append, List.length_singleton]
        rcases List.mem_append.1 ho with ho | ho
        · have := h.objs k hk o ho
          omega
        · simp at ho
          omega
    · intro i hi
      refine key (fun R => R.names.Nodup) h.nodup ?_ i (by simpa using hi)
      exact List.nodup_append.2 ⟨h.nodup k hk, by simp, fun a ha b hb e => by simp at hb; subst hb; subst e; exact hx ha⟩
    · intro o ho
      show -1 ≤ o ∧ o < ((S.regs.set k _).length : Int)
      rw [List.length_set]
      rcases List.mem_append.1 ho with ho | ho
      · exact h.homes o ho
      · simp at ho
        omega

theorem Sts.WF.made {S : Sts} (h : S.WF) (p : Int) (hp : p = -1 ∨ S.has p) (hn : S.regs.length < 30) : (Sts.mk (S.regs ++ [⟨p, [], []⟩]) S.homes).WF := by
  have key : ∀ (P : Nat → Reg → Prop), (∀ i, i < S.regs.length → P i (S.reg i)) → P S.regs.length ⟨p, [], []⟩ →
      ∀ i, i < (S.regs ++ [(⟨p, [], []⟩ : Reg)]).length → P i ((Sts.mk (S.regs ++ [⟨p, [], []⟩]) S.homes).reg i) := by
    intro P h1 h2 i hi
    rcases Nat.lt_or_ge i S.regs.length with h' | h'
    · rw [Sts.reg_snoc_old _ _ _ _ h']; exact h1 i h'
    · obtain rfl : i = S.regs.length := by simp at hi; omega
      rw [Sts.reg_snoc_new]; exact h2
  refine ⟨by simp; omega, ?_, ?_, ?_, ?_, ?_, ?_⟩
  · refine key (fun i R => -1 ≤ R.par ∧ R.par < i) h.par ?_
    rcases hp with rfl | ⟨h1, h2⟩
    · exact ⟨by simp, by simp; omega⟩
    · exact ⟨by simp; omega, h2⟩
  · exact key (fun _ R => R.names.length = R.objs.length) h.len rfl
  · exact key (fun _ R => R.names.length ≤ S.homes.length) h.few (by simp)
  · exact key (fun _ R => ∀ o ∈ R.objs, 0 ≤ o ∧ o < S.homes.length) h.objs (by simp)
  · exact key (fun _ R => R.names.Nodup) h.nodup (by simp)
  · intro o ho
    have := h.homes o ho
    show -1 ≤ o ∧ o < ((S.regs ++ [_]).length : Int)
    simp only [List.length_append, List.length_singleton]
    omega

/-- A step keeps what holds of all; it makes at most one object. -/
theorem stepS_wf {S S1 : Sts} {s : Stp} {g : Got} (h : S.WF) (e : stepS S s = some (g, S1)) : S1.WF ∧ S1.homes.length ≤ S.homes.length + 1 := by
  unfold stepS at e
  split at e
  · split at e
    · rename_i hc
      cases e
      exact ⟨h.made _ hc.1 hc.2, by simp⟩
    · cases e
  · split at e
    · split at e
      · cases e; exact ⟨h, by omega⟩
      · cases e
    · split at e
      · rename_i hs
        obtain ⟨h1, h2⟩ := hs
        split at e
        · cases e
          refine ⟨h.insert _ (by omega) _, ?_⟩
          unfold Sts.insert
          split <;> simp
        · repeat' split at e
          all_goals (cases e <;> exact ⟨h, by omega⟩)
      · cases e

end Go.Proofs.Ytipmpeekfajlcaa
