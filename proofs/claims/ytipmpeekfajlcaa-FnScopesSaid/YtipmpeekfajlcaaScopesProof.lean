/- The law FnScopes is true at every slice of steps; the argument reads afterwards as before. No condition. -/
import Derived.Test.YtipmpeekfajlcaaRows
import Derived.Test.YtipmpeekfajlcaaScopesWalk
import Derived.WalkKit
import Derived.ProofKit
import Derived.OpenShut
import Derived.ShutString
import Derived.Carry
import Derived.Deep.Slices
import Derived.Deep.Fields
import Derived.ChangeSame
namespace Go.Proofs.Ytipmpeekfajlcaa.fnScopes
open Go.ChangeShapes Go.WideShapes Go.ChangeAt Go.RowKit Go.Deep
set_option linter.unusedVariables false

theorem own : ownKnob Try.prog.godebug = none := by kernel_rfl

section
variable {H : Type} {enc : TypeId × Value → H} {P : Program} {w : World} {base : Nat} {spare : Nat → Bool} {held : Bool}
theorem open_slice_fields {t e : TypeId} {fs : Array Field} {fuel : Nat} {cs : List Value} {x : DataW H × List MemPlace} (ht : P.underlying t = some (.slice e)) (he : P.underlying e = some (.struct fs))
    (hone : oneCellFields P fs = true) (hC : P.cellsOf e = fs.size) (h : DataW.trod enc P w base spare held fuel t cs = some x) :
    (cs = [.slice none 0 0] ∧ x = (.nil, [])) ∨
    ∃ (a : Addr) (len cap m : Nat) (D : Nat → DataW H) (Pl : Nat → List MemPlace), cs = [.slice (some a) len cap] ∧ base ≤ a.block ∧ len ≤ cap ∧ cap ≤ maxLen ∧ m = (if spare a.block then cap else len) ∧
      x = (.slice ((List.range len).map D) ((List.range (m - len)).map fun j => D (len + j)), MemPlace.row a (m * fs.size) ++ (List.range m).flatMap Pl) ∧
      ∀ i, i < m → ∃ (ys : List (DataW H × List MemPlace)) (n : Nat), D i = .agg (ys.map (·.1)) ∧ Pl i = ys.flatMap (·.2) ∧ ys.length = fs.size ∧
        ∀ (j : Nat) (f : Field), fs[j]? = some f → ∃ (v : Value) (y : DataW H × List MemPlace), w.cell? (a.add (i * fs.size + j)) = some v ∧ ys[j]? = some y ∧ DataW.trod enc P w base spare held n f.type [v] = some y := by
  rcases open_slice ht h with h0 | ⟨a, len, cap, m, n, D, Pl, hcs, hb, hl, hm, hmm, hx, hi⟩
  · exact .inl h0
  · refine .inr ⟨a, len, cap, m, D, Pl, hcs, hb, hl, hm, hmm, by rw [hC] at hx; exact hx, fun i him => ?_⟩
    obtain ⟨cs', hc, ht'⟩ := hi i him
    rw [hC] at hc
    obtain ⟨ys, n', hn', hy, hlen, hyl, hf⟩ := DataW.trod_struct he ht'
    obtain ⟨_, hcl, hat⟩ := World.cells?_some hc
    simp only [Prod.mk.injEq] at hy
    refine ⟨ys, n', hy.1, hy.2, hyl, fun j f hj => ?_⟩
    obtain ⟨ho, hk⟩ := hone_of hone j f hj
    have hjl : j < fs.size := (Array.getElem?_eq_some_iff.1 hj).1
    have hcell := hat j hjl
    have hv : cs'[j]? = some (cs'[j]'(by omega)) := List.getElem?_eq_getElem (by omega)
    have h1 := hf j f hj
    rw [ho, hk] at h1
    have hone' : (cs'.drop j).take 1 = [cs'[j]'(by omega)] := by
      rw [List.drop_eq_getElem_cons (by omega)]
      rfl
    rw [hone'] at h1
    have hys : ys[j]? = some (ys[j]'(by omega)) := List.getElem?_eq_getElem (by omega)
    refine ⟨_, _, ?_, hys, h1.trans hys⟩
    rw [← Go.Deep.add_add, hcell, hv]
end

theorem laidOut : laidOutB Try.prog = true := by kernel_rfl
theorem und27 : Try.prog.underlying 27 = some (.slice 44) := by kernel_rfl
theorem und2 : Try.prog.underlying 2 = some (.int .i64) := by kernel_rfl
noncomputable def stepFields : Array Field := match Try.prog.underlying 44 with | some (.struct fs) => fs | _ => #[]
theorem und44 : Try.prog.underlying 44 = some (.struct stepFields) := by kernel_rfl
theorem one44 : oneCellFields Try.prog stepFields = true := by kernel_rfl
theorem cells44 : Try.prog.cellsOf 44 = stepFields.size := by kernel_rfl
theorem size44 : stepFields.size = 4 := by kernel_rfl
theorem fld0 : (stepFields[0]?).map (·.type) = some 2 := by kernel_rfl
theorem fld1 : (stepFields[1]?).map (·.type) = some 2 := by kernel_rfl
theorem fld2 : (stepFields[2]?).map (·.type) = some 9 := by kernel_rfl
theorem fld3 : (stepFields[3]?).map (·.type) = some 2 := by kernel_rfl
theorem fld_of {i : Nat} {t : TypeId} (h : (stepFields[i]?).map (·.type) = some t) : ∃ f, stepFields[i]? = some f ∧ f.type = t := by
  cases e : stepFields[i]? with
  | none => rw [e] at h; cases h
  | some f => rw [e] at h; exact ⟨f, rfl, by simpa using h⟩

theorem open_steps {H : Type} {enc : TypeId × Value → H} {W : World} {a0 : Option Addr} {len cap fuel : Nat} {x : DataW H × List MemPlace} (hf : DataW.trod enc Try.prog W 0 (fun _ => true) true fuel 27 [.slice a0 len cap] = some x) :
    ∃ ss : List Stp, StepsArg W (.slice a0 len cap) ss ∧ ss.length ≤ maxLen ∧ ∀ s ∈ ss, s.name.size ≤ maxLen := by
  rcases open_slice_fields und27 und44 one44 cells44 hf with ⟨hcs, hx⟩ | ⟨a, len', cap', m, D, Pl, hcs, hb, hl, hm, hmm, hx, hall⟩
  · simp at hcs
    obtain ⟨rfl, rfl, rfl⟩ := hcs
    exact ⟨[], .inl ⟨rfl, none, 0, rfl⟩, Nat.zero_le _, fun s hs => by cases hs⟩
  · simp at hcs
    obtain ⟨rfl, rfl, rfl⟩ := hcs
    rw [size44] at hall
    have hat : ∀ i, i < len → ∃ s : Stp, W.cell? (a.add (i * 4 + 0)) = some (.int .i64 s.kind) ∧ W.cell? (a.add (i * 4 + 1)) = some (.int .i64 s.scope) ∧ W.cell? (a.add (i * 4 + 2)) = some (.string s.name) ∧ W.cell? (a.add (i * 4 + 3)) = some (.int .i64 s.index) ∧ s.name.size ≤ maxLen := by
      intro i hi
      obtain ⟨ys, n, _, _, _, hfld⟩ := hall i (by rw [hmm, if_pos rfl]; omega)
      obtain ⟨f0, g0, t0⟩ := fld_of fld0
      obtain ⟨f1, g1, t1⟩ := fld_of fld1
      obtain ⟨f2, g2, t2⟩ := fld_of fld2
      obtain ⟨f3, g3, t3⟩ := fld_of fld3
      obtain ⟨v0, y0, c0, _, r0⟩ := hfld 0 f0 g0
      obtain ⟨v1, y1, c1, _, r1⟩ := hfld 1 f1 g1
      obtain ⟨v2, y2, c2, _, r2⟩ := hfld 2 f2 g2
      obtain ⟨v3, y3, c3, _, r3⟩ := hfld 3 f3 g3
      rw [t0] at r0
      rw [t1] at r1
      rw [t2] at r2
      rw [t3] at r3
      obtain ⟨k0, e0, _, _⟩ := DataW.trod_int und2 r0
      obtain ⟨k1, e1, _, _⟩ := DataW.trod_int und2 r1
      obtain ⟨k2, e2, _, hs2⟩ := DataW.trod_string und9 r2
      obtain ⟨k3, e3, _, _⟩ := DataW.trod_int und2 r3
      simp at e0 e1 e2 e3
      subst e0 e1 e2 e3
      exact ⟨⟨k0, k1, k2, k3⟩, c0, c1, c2, c3, hs2⟩
    classical
    let F : Nat → Stp := fun i => if h : i < len then Classical.choose (hat i h) else ⟨0, 0, ByteArray.empty, 0⟩
    have hF : ∀ i, i < len → W.cell? (a.add (i * 4 + 0)) = some (.int .i64 (F i).kind) ∧ W.cell? (a.add (i * 4 + 1)) = some (.int .i64 (F i).scope) ∧ W.cell? (a.add (i * 4 + 2)) = some (.string (F i).name) ∧ W.cell? (a.add (i * 4 + 3)) = some (.int .i64 (F i).index) ∧ (F i).name.size ≤ maxLen := by
      intro i hi
      have := Classical.choose_spec (hat i hi)
      simp only [F, dif_pos hi]
      exact this
    refine ⟨(List.range len).map F, ?_, by simp; omega, fun s hs => ?_⟩
    · by_cases h0 : len = 0
      · subst h0
        exact .inl ⟨rfl, some a, cap, rfl⟩
      · obtain ⟨ab, ao, sp⟩ := a
        have hsp : sp = none := by
          have h1 := (hF 0 (by omega)).1
          cases sp with
          | none => rfl
          | some q =>
            simp [Addr.add, World.cell?] at h1
            split at h1 <;> simp at h1
        subst hsp
        refine .inr ⟨ab, ao, cap, by simp, by simp; omega, fun i hi => ?_⟩
        have hi' : i < len := by simpa using hi
        obtain ⟨q0, q1, q2, q3, _⟩ := hF i hi'
        simp only [Addr.add_lit, Nat.add_zero] at q0 q1 q2 q3
        simp only [List.getElem_map, List.getElem_range]
        exact ⟨q0, by rw [Nat.add_assoc]; exact q1, by rw [Nat.add_assoc]; exact q2, by rw [Nat.add_assoc]; exact q3⟩
    · obtain ⟨i, hi, rfl⟩ := List.mem_map.1 hs
      exact (hF i (List.mem_range.1 hi)).2.2.2.2

set_option maxRecDepth 100000 in
theorem lifted (os : Os) (started : os.Started) (H : Type) (enc : TypeId × Value → H) :
    ReturnsInHanded {} Try.checked os 5 .any (Rows.fnScopesSpec.pre6 enc Try.prog Try.f5 Rows.fnScopesRow.domain false) (Rows.fnScopesSpec.post enc Try.prog Try.f5 false true false false) := by
  refine returnsInHanded_of_change (C := Try.checked) own started (by kernel_rfl) Try.func5
    (ChangeSpec.witness6 (enc := enc) (C := Try.checked) false ⟨#[], #[.slice none 0 0], []⟩ 8 (by kernel_rfl) (by kernel_rfl) (by kernel_rfl) (by kernel_rfl)) ?_
  intro W base args ds gs before hval0 hW hcnd _
  have hval : ∀ (j : Nat) t v, Try.f5.params[j]? = some t → args[j]? = some v → Value.okWide Try.prog W .any base t v := hval0
  have hW' := hW
  obtain ⟨p, q, hA0, hV, rfl, hfz, hnd⟩ := hW
  have hA : DataW.TrodAll enc Try.prog W 0 (fun _ => true) true Try.f5.params.toList args.toList ds p := hA0
  rw [Try.params5] at hA hval
  obtain ⟨v0, d0, rfl, rfl, h0⟩ := trodAll_one hA
  obtain ⟨rfl, rfl⟩ := trodVars_none hV
  have h0k := h0
  obtain ⟨fuel, hf⟩ := h0
  clear hA0 hval0
  simp only [List.append_nil] at hW'
  have hlt : ∀ x ∈ p, x.block < W.heap.size := fun x hx => by simpa using hW'.lt x hx
  obtain ⟨a0, len, cap, rfl⟩ := okWide_slice und27 (hval 0 27 v0 rfl rfl)
  obtain ⟨ss, hA1, hl, hs⟩ := open_steps hf
  refine (law_any hA1 hl hs).mono fun e W' ⟨he, hg⟩ => ?_
  subst he
  have hbl : Below W.heap.size W W' := hg.below (fun _ f => f.elim) (Nat.le_refl _)
  have hargs : DataW.Trod enc Try.prog W' 0 (fun b => decide (b < W.heap.size)) true 27 (.slice a0 len cap) d0 p := Below.trod laidOut (by kernel_rfl) (of_decide_eq_true (by kernel_rfl)) h0k hbl hlt
  exact ⟨_, rfl, _, _, _, [], _, [], hW', trodAll_cons_mk (shut_bool Try.underlying4 _) trodAll_mk0, trodAll_mk1 hargs, rfl, hbl.frame _, fun h => by cases h⟩

theorem over : Rows.fnScopesRow.holds Try.pinned (OpenSpec.ofChange Rows.fnScopesSpec) :=
  OpenClaim.holds_of_wide 5 Try.f5 rfl rfl rfl rfl rfl rfl rfl ⟨rfl, rfl, rfl, rfl, rfl⟩ rfl rfl rfl rfl rfl (by kernel_rfl) Try.func5 (by kernel_rfl)
    (of_decide_eq_true (by kernel_rfl)) (by unfold Func.isWrapper; first | (rw [if_pos (by decide +kernel)]; kernel_rfl) | (rw [if_neg (by decide +kernel)]; exact ⟨rfl, rfl⟩))
    (fun os started H enc _ => lifted os started H enc)

/-- The statement. -/
theorem proved : Rows.FnScopesSaid :=
  over
#print axioms proved
end Go.Proofs.Ytipmpeekfajlcaa.fnScopes
