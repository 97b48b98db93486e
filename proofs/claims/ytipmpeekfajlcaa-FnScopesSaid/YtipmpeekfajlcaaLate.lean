/- A region that draws its order, whose last stores hit the very cells that it loads: the condition on the world under which loads are taken first is asked only till the first late operation has come up; each late operation waits for each operation that is taken first. -/
import Derived.OrdersHeld
import Derived.RegionTactic
namespace Go.Proofs.Ytipmpeekfajlcaa

section
variable {P : Program} {ops : Array Oper} {Q : Exit → Act → World → Prop} {md : Region.Mode} {S : World → Prop} {L : List Nat}

/-- Has a late operation come up? -/
def lateIn (L : List Nat) (listed : Array Bool) : Bool := L.any fun l => listed.getD l false

/-- Whatever order is picked from here on; S holds behind every operation till a late one has come up. -/
def wpAnyE (P : Program) (md : Region.Mode) (ops : Array Oper) (Q : Exit → Act → World → Prop) (S : World → Prop) (L : List Nat) : Nat → Array Bool → Act → World → Prop
  | 0, listed, a, w => Region.ready md ops listed = [] ∧ Q .normal a w
  | fuel + 1, listed, a, w =>
    (Region.ready md ops listed = [] → Q .normal a w) ∧
    ∀ i ∈ Region.ready md ops listed, wpOp P ops Q i (fun a' w' => (lateIn L (listed.setIfInBounds i true) = false → S w') ∧ wpAnyE P md ops Q S L fuel (listed.setIfInBounds i true) a' w') a w

theorem wpAny_of_E : ∀ (fuel : Nat) (listed : Array Bool) (a : Act) (w : World), wpAnyE P md ops Q S L fuel listed a w → wpAny P md ops Q fuel listed a w
  | 0, _, _, _, h => h
  | fuel + 1, _, _, _, h => ⟨h.1, fun i hi => wpOp_mono (fun a' w' h' => wpAny_of_E fuel _ a' w' h'.2) (h.2 i hi)⟩

theorem late_set {i : Nat} {listed : Array Bool} (h : lateIn L listed = true) : lateIn L (listed.setIfInBounds i true) = true := by
  unfold lateIn at *
  rw [List.any_eq_true] at *
  obtain ⟨l, hl, h1⟩ := h
  exact ⟨l, hl, getD_set_true h1⟩

/-- Once a late operation has come up nothing more is asked of the world. -/
theorem wpAnyE_late : ∀ (fuel : Nat) (listed : Array Bool) (a : Act) (w : World), lateIn L listed = true → wpAny P md ops Q fuel listed a w → wpAnyE P md ops Q S L fuel listed a w
  | 0, _, _, _, _, h => h
  | fuel + 1, _, _, _, hl, h => ⟨h.1, fun i hi => wpOp_mono (fun a' w' h' => ⟨(fun e => by rw [late_set hl] at e; cases e), wpAnyE_late fuel _ a' w' (late_set hl) h'⟩) (h.2 i hi)⟩

theorem late_not {i : Nat} {listed : Array Bool} (hi : i ∉ L) (h : lateIn L listed = false) : lateIn L (listed.setIfInBounds i true) = false := by
  unfold lateIn at *
  rw [List.any_eq_false] at *
  intro l hl
  rw [getD_set_ne false (fun e : i = l => hi (by rw [e]; exact hl))]
  exact h l hl

/-- An operation that may come up may be taken first: as the kit's law, but that S is asked till a late operation has come up; the late ones wait for it. -/
theorem wpAnyE_first {i : Nat} {oi : Oper} {v : Value} (hi : ops[i]? = some oi) (hsel : ∀ (j : Nat) (o : Oper) cs b, ops[j]? = some o → o.op ≠ .select cs b)
    (hQ : ∀ c a w, Q (.panic c) (a.put oi.dst v) w → Q (.panic c) a w) (hiL : i ∉ L)
    (hw : ∀ l ∈ L, ∀ ol, ops[l]? = some ol → ∃ e ∈ ol.after, Region.binds md e = true ∧ e.on = i) :
    ∀ (fuel : Nat) (listed : Array Bool) (a : Act) (w : World),
      (∀ j oj, ops[j]? = some oj → j ≠ i → listed.getD j true = false → (∀ e ∈ oj.after, Region.binds md e = true → e.on ≠ i) → oi.apart ops oj = true) →
      i ∈ Region.ready md ops listed → YieldsIf P ops S oi v a → lateIn L listed = false → S w →
      wpAnyE P md ops Q S L fuel (listed.setIfInBounds i true) (a.put oi.dst v) w → wpAnyE P md ops Q S L (fuel + 1) listed a w := by
  intro fuel
  induction fuel with
  | zero =>
    intro listed a w _ hr hy hl hS H
    refine ⟨fun h => (by rw [h] at hr; cases hr), fun j hj => ?_⟩
    by_cases hji : j = i
    · subst hji
      exact hy.wpOp hi hS ⟨fun _ => hS, H⟩
    · have := ready_mono hj hji
      rw [H.1] at this
      cases this
  | succ fuel ih =>
    intro listed a w hfree hr hy hl hS H
    refine ⟨fun h => (by rw [h] at hr; cases hr), fun j hj => ?_⟩
    by_cases hji : j = i
    · subst hji
      exact hy.wpOp hi hS ⟨fun _ => hS, H⟩
    · have h1 := H.2 j (ready_mono hj hji)
      obtain ⟨hjun, oj, hoj, hall⟩ := mem_ready.1 hj
      have hnot : ∀ e ∈ oj.after, Region.binds md e = true → e.on ≠ i := fun e he hb heq => by
        have h1 := hall e he hb
        have h0 := (mem_ready.1 hr).1
        rw [heq] at h1
        rcases Nat.lt_or_ge i listed.size with h' | h'
        · simp [h'] at h0 h1; rw [h0] at h1; cases h1
        · simp [Array.getElem?_eq_none h'] at h1
      have hjL : j ∉ L := fun hj' => by
        obtain ⟨e, he, hb, heq⟩ := hw j hj' oj hoj
        exact hnot e he hb heq
      have h2 := wpOp_putIf hoj (hfree j oj hoj hji hjun hnot) (fun cs b => hsel i oi cs b hi) (fun cs b => hsel j oj cs b hoj) hQ hy h1
      have hfree' : ∀ k ok, ops[k]? = some ok → k ≠ i → (listed.setIfInBounds j true).getD k true = false →
          (∀ e ∈ ok.after, Region.binds md e = true → e.on ≠ i) → oi.apart ops ok = true := fun k ok hk hki hun hno => by
        refine hfree k ok hk hki ?_ hno
        by_cases hjk : j = k
        · subst hjk; exact hjun
        · rw [getD_set_ne true hjk] at hun; exact hun
      refine wpOp_mono (fun a' w' h3 => ?_) h2
      have hS' : S w' := h3.2.1 (late_not hjL (late_not hiL hl))
      refine ⟨fun _ => hS', ih (listed.setIfInBounds j true) a' w' hfree' (ready_mono hr (Ne.symm hji)) h3.1 (late_not hjL hl) hS' ?_⟩
      rw [Array.setIfInBounds_comm _ _ hji]
      exact h3.2.2

/-- Do the late operations wait for number i? -/
def waitB (md : Region.Mode) (ops : Array Oper) (L : List Nat) (i : Nat) : Bool :=
  !L.contains i && L.all fun l => match ops[l]? with
    | some ol => ol.after.any fun e => Region.binds md e && e.on == i
    | none => true

theorem waitB_spec {i : Nat} (h : waitB md ops L i = true) : i ∉ L ∧ ∀ l ∈ L, ∀ ol, ops[l]? = some ol → ∃ e ∈ ol.after, Region.binds md e = true ∧ e.on = i := by
  unfold waitB at h
  rw [Bool.and_eq_true, List.all_eq_true] at h
  obtain ⟨h1, h2⟩ := h
  refine ⟨by simpa using h1, fun l hl ol ho => ?_⟩
  have := h2 l hl
  rw [ho] at this
  obtain ⟨e, he, hb⟩ := Array.any_eq_true'.1 this
  simp only [Bool.and_eq_true, beq_iff_eq] at hb
  exact ⟨e, he, hb.1, hb.2⟩

/-- Take number i first. -/
theorem wpAnyE_take {i : Nat} {oi : Oper} {v : Value} {d : Option Tmp} {fuel : Nat} {listed : Array Bool} {a : Act} {w : World} (hi : ops[i]? = some oi) (hd : oi.dst = d)
    (hs : (Region.noSelect ops && Region.free md ops listed i && (Region.ready md ops listed).contains i && waitB md ops L i && !lateIn L listed) = true)
    (hQ : ∀ c a w, Q (.panic c) (a.put d v) w → Q (.panic c) a w) (hy : YieldsIf P ops S oi v a) (hS : S w)
    (h : wpAnyE P md ops Q S L fuel (listed.setIfInBounds i true) (a.put d v) w) : wpAnyE P md ops Q S L (fuel + 1) listed a w := by
  subst hd
  simp only [Bool.and_eq_true, Bool.not_eq_true'] at hs
  obtain ⟨⟨⟨⟨h1, h2⟩, h3⟩, h4⟩, h5⟩ := hs
  exact wpAnyE_first hi (Region.noSelect_spec h1) hQ (waitB_spec h4).1 (waitB_spec h4).2 fuel listed a w (Region.free_spec hi h2) (by simpa using h3) hy h5 hS h

/-- Whichever of those that may come up comes up. -/
def AllReadyE (P : Program) (md : Region.Mode) (ops : Array Oper) (Q : Exit → Act → World → Prop) (S : World → Prop) (L : List Nat) (fuel : Nat) (listed : Array Bool) (a : Act) (w : World) (rs : List Nat) : Prop :=
  ∀ i ∈ rs, wpOp P ops Q i (fun a' w' => (lateIn L (listed.setIfInBounds i true) = false → S w') ∧ wpAnyE P md ops Q S L fuel (listed.setIfInBounds i true) a' w') a w
theorem AllReadyE.nil {fuel : Nat} {listed : Array Bool} {a : Act} {w : World} : AllReadyE P md ops Q S L fuel listed a w [] := fun _ h => by cases h
theorem AllReadyE.cons {fuel : Nat} {listed : Array Bool} {a : Act} {w : World} {i : Nat} {o : Oper} {rs : List Nat} (ho : ops[i]? = some o)
    (h : ∀ K' : Act → World → Prop, (∀ a w, (lateIn L (listed.setIfInBounds i true) = false → S w) → wpAnyE P md ops Q S L fuel (listed.setIfInBounds i true) a w → K' a w) → if Region.wanted o (yielded ops a.tmps) = true then Oper.wp P o a w K' Q else K' (a.put o.dst undef) w)
    (hs : AllReadyE P md ops Q S L fuel listed a w rs) : AllReadyE P md ops Q S L fuel listed a w (i :: rs) := fun j hj => by
  rcases List.mem_cons.1 hj with rfl | hj
  · exact wpOp_step ho (fun K' hK => h K' (fun a w hS hW => hK a w ⟨hS, hW⟩))
  · exact hs j hj
theorem wpAnyE_ready {rs : List Nat} {fuel : Nat} {listed : Array Bool} {a : Act} {w : World} (hr : Region.ready md ops listed = rs) (hne : rs ≠ [])
    (h : AllReadyE P md ops Q S L fuel listed a w rs) : wpAnyE P md ops Q S L (fuel + 1) listed a w :=
  ⟨fun h0 => absurd (hr ▸ h0) hne, hr ▸ h⟩

/-- The same two for a region that is written out as a list. -/
theorem wpAnyE_taken {l : List Oper} {i : Nat} {oi : Oper} {v : Value} {d : Option Tmp} {fuel : Nat} {listed : Array Bool} {a : Act} {w : World} (hi : l[i]? = some oi) (hd : oi.dst = d)
    (hs : (Region.noSelect l.toArray && Region.free md l.toArray listed i && (Region.ready md l.toArray listed).contains i && waitB md l.toArray L i && !lateIn L listed) = true)
    (hQ : ∀ c a w, Q (.panic c) (a.put d v) w → Q (.panic c) a w) (hy : YieldsIf P l.toArray S oi v a) (hS : S w)
    (h : wpAnyE P md l.toArray Q S L fuel (listed.setIfInBounds i true) (a.put d v) w) : wpAnyE P md l.toArray Q S L (fuel + 1) listed a w :=
  wpAnyE_take (by rw [List.getElem?_toArray]; exact hi) hd hs hQ hy hS h
theorem AllReadyE.next {l : List Oper} {fuel : Nat} {listed : Array Bool} {a : Act} {w : World} {i : Nat} {o : Oper} {rs : List Nat} (ho : l[i]? = some o)
    (h : ∀ K' : Act → World → Prop, (∀ a w, (lateIn L (listed.setIfInBounds i true) = false → S w) → wpAnyE P md l.toArray Q S L fuel (listed.setIfInBounds i true) a w → K' a w) → if Region.wanted o (yielded l.toArray a.tmps) = true then Oper.wp P o a w K' Q else K' (a.put o.dst undef) w)
    (hs : AllReadyE P md l.toArray Q S L fuel listed a w rs) : AllReadyE P md l.toArray Q S L fuel listed a w (i :: rs) :=
  AllReadyE.cons (by rw [List.getElem?_toArray]; exact ho) h hs

/-- An operation that needs nothing of the world may be taken first, whatever waits for it. -/
theorem wpAnyE_pure1 {i : Nat} {oi : Oper} {v : Value} (hi : ops[i]? = some oi) (hsel : ∀ (j : Nat) (o : Oper) cs b, ops[j]? = some o → o.op ≠ .select cs b)
    (hQ : ∀ c a w, Q (.panic c) (a.put oi.dst v) w → Q (.panic c) a w) (hiL : i ∉ L) :
    ∀ (fuel : Nat) (listed : Array Bool) (a : Act) (w : World),
      (∀ j oj, ops[j]? = some oj → j ≠ i → listed.getD j true = false → (∀ e ∈ oj.after, Region.binds md e = true → e.on ≠ i) → oi.apart ops oj = true) →
      i ∈ Region.ready md ops listed → YieldsIf P ops (fun _ => True) oi v a → (lateIn L listed = false → S w) →
      wpAnyE P md ops Q S L fuel (listed.setIfInBounds i true) (a.put oi.dst v) w → wpAnyE P md ops Q S L (fuel + 1) listed a w := by
  have back : ∀ {listed : Array Bool} {j : Nat}, lateIn L (listed.setIfInBounds j true) = false → lateIn L listed = false := by
    intro listed j h
    cases e : lateIn L listed with
    | false => rfl
    | true => rw [late_set e] at h; cases h
  intro fuel
  induction fuel with
  | zero =>
    intro listed a w _ hr hy hS H
    refine ⟨fun h => (by rw [h] at hr; cases hr), fun j hj => ?_⟩
    by_cases hji : j = i
    · subst hji
      exact hy.wpOp hi trivial ⟨fun e => hS (back e), H⟩
    · have := ready_mono hj hji
      rw [H.1] at this
      cases this
  | succ fuel ih =>
    intro listed a w hfree hr hy hS H
    refine ⟨fun h => (by rw [h] at hr; cases hr), fun j hj => ?_⟩
    by_cases hji : j = i
    · subst hji
      exact hy.wpOp hi trivial ⟨fun e => hS (back e), H⟩
    · have h1 := H.2 j (ready_mono hj hji)
      obtain ⟨hjun, oj, hoj, hall⟩ := mem_ready.1 hj
      have hnot : ∀ e ∈ oj.after, Region.binds md e = true → e.on ≠ i := fun e he hb heq => by
        have h1 := hall e he hb
        have h0 := (mem_ready.1 hr).1
        rw [heq] at h1
        rcases Nat.lt_or_ge i listed.size with h' | h'
        · simp [h'] at h0 h1; rw [h0] at h1; cases h1
        · simp [Array.getElem?_eq_none h'] at h1
      have h2 := wpOp_putIf hoj (hfree j oj hoj hji hjun hnot) (fun cs b => hsel i oi cs b hi) (fun cs b => hsel j oj cs b hoj) hQ hy h1
      have hfree' : ∀ k ok, ops[k]? = some ok → k ≠ i → (listed.setIfInBounds j true).getD k true = false →
          (∀ e ∈ ok.after, Region.binds md e = true → e.on ≠ i) → oi.apart ops ok = true := fun k ok hk hki hun hno => by
        refine hfree k ok hk hki ?_ hno
        by_cases hjk : j = k
        · subst hjk; exact hjun
        · rw [getD_set_ne true hjk] at hun; exact hun
      refine wpOp_mono (fun a' w' h3 => ?_) h2
      have hS' : lateIn L (listed.setIfInBounds j true) = false → S w' := fun e => h3.2.1 (by
        rw [Array.setIfInBounds_comm _ _ (Ne.symm hji)]
        exact late_not hiL e)
      refine ⟨hS', ih (listed.setIfInBounds j true) a' w' hfree' (ready_mono hr (Ne.symm hji)) h3.1 hS' ?_⟩
      rw [Array.setIfInBounds_comm _ _ hji]
      exact h3.2.2

/-- The same for a region that is written out as a list. -/
theorem wpAnyE_pure {l : List Oper} {i : Nat} {oi : Oper} {v : Value} {d : Option Tmp} {fuel : Nat} {listed : Array Bool} {a : Act} {w : World} (hi : l[i]? = some oi) (hd : oi.dst = d)
    (hs : (Region.noSelect l.toArray && Region.free md l.toArray listed i && (Region.ready md l.toArray listed).contains i && !L.contains i) = true)
    (hQ : ∀ c a w, Q (.panic c) (a.put d v) w → Q (.panic c) a w) (hy : YieldsIf P l.toArray (fun _ => True) oi v a) (hS : lateIn L listed = false → S w)
    (h : wpAnyE P md l.toArray Q S L fuel (listed.setIfInBounds i true) (a.put d v) w) : wpAnyE P md l.toArray Q S L (fuel + 1) listed a w := by
  subst hd
  simp only [Bool.and_eq_true, Bool.not_eq_true'] at hs
  obtain ⟨⟨⟨h1, h2⟩, h3⟩, h4⟩ := hs
  have hi' : l.toArray[i]? = some oi := by rw [List.getElem?_toArray]; exact hi
  exact wpAnyE_pure1 hi' (Region.noSelect_spec h1) hQ (by simpa using h4) fuel listed a w (Region.free_spec hi' h2) (by simpa using h3) hy hS h

theorem not_late {listed : Array Bool} {p : Prop} (h : lateIn L listed = true) : lateIn L listed = false → p := fun e => by rw [h] at e; cases e
theorem wpAnyE_done {fuel : Nat} {listed : Array Bool} {a : Act} {w : World} (hr : Region.ready md ops listed = []) (h : Q .normal a w) : wpAnyE P md ops Q S L fuel listed a w := by
  cases fuel with
  | zero => exact ⟨hr, h⟩
  | succ fuel => exact ⟨fun _ => h, fun i hi => by rw [hr] at hi; cases hi⟩

/-- The beginning. -/
theorem wp_region_late (L : List Nat) {id : Nat} {a : Act} {w : World} (hm : P.follows .mixedOrders = true)
    (h : wpAnyE P .any ops Q S L ops.size (Array.replicate ops.size false) a w.drew) : (Code.region id ops true).wp P Q a w :=
  wp_region_any hm (wpAny_of_E _ _ _ _ h)
end
end Go.Proofs.Ytipmpeekfajlcaa
