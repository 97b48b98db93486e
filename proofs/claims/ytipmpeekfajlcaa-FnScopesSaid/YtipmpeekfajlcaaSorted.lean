/- The walk of the reference's sorted: the names in order, in new memory. -/
import Derived.Test.YtipmpeekfajlcaaKids
import Derived.Deep.RegionLawGrows
import Derived.BigQuiet
namespace Go.Proofs.Ytipmpeekfajlcaa
open Go.RowKit

theorem info9 : (Try.prog.info? 9).map (fun i => (i.zero, i.size, i.bytes)) = some (some (.string ⟨#[]⟩), 1, 16) := by kernel_rfl

theorem isort_snoc (xs : List ByteArray) (x : ByteArray) : isort (xs ++ [x]) = insertS x (isort xs) := by
  simp [isort, List.foldl_append]
theorem insertS_length (x : ByteArray) : ∀ ys : List ByteArray, (insertS x ys).length = ys.length + 1
  | [] => rfl
  | y :: r => by
    unfold insertS
    split
    · simp [insertS_length x r]
    · simp
theorem isort_length (xs : List ByteArray) : (isort xs).length = xs.length := by
  have : ∀ (l acc : List ByteArray), (l.foldl (fun out x => insertS x out) acc).length = acc.length + l.length := by
    intro l
    induction l with
    | nil => intro acc; simp
    | cons a r ih => intro acc; rw [List.foldl_cons, ih, insertS_length]; simp; omega
  have h := this xs []
  rw [List.length_nil, Nat.zero_add] at h
  exact h
theorem insertS_at (x : ByteArray) : ∀ (ys : List ByteArray) (a : Nat), a ≤ ys.length → (∀ i (h : i < ys.length), i < a → less ys[i] x = true) → (∀ (h : a < ys.length), less ys[a] x = false) →
    insertS x ys = ys.take a ++ [x] ++ ys.drop a
  | [], a, h, _, _ => by
    obtain rfl : a = 0 := by simpa using h
    rfl
  | y :: r, 0, _, _, h2 => by
    have := h2 (by simp)
    simp only [List.getElem_cons_zero] at this
    simp [insertS, this]
  | y :: r, a + 1, h, h1, h2 => by
    have h0 := h1 0 (by simp) (by omega)
    simp only [List.getElem_cons_zero] at h0
    have e1 : ∀ i (hi : i < r.length), i < a → less r[i] x = true := fun i hi hia => by
      have := h1 (i + 1) (by simp only [List.length_cons]; omega) (by omega)
      simp only [List.getElem_cons_succ] at this
      exact this
    have e2 : ∀ (ha : a < r.length), less r[a] x = false := fun ha => by
      have := h2 (by simp only [List.length_cons]; omega)
      simp only [List.getElem_cons_succ] at this
      exact this
    rw [insertS, if_pos h0, insertS_at x r a (by simpa using h) e1 e2]
    simp

theorem one_strings (l : List ByteArray) : ∀ u ∈ l.map Value.string, u.oneCell' = true := by
  intro u hu
  obtain ⟨x, _, rfl⟩ := List.mem_map.1 hu
  rfl

def SortRel (w : World) (xs : List ByteArray) (v i : Value) (wr : World) : Prop :=
  ∃ j cap g : Nat, j ≤ xs.length ∧ i = .int .i64 j ∧ Chg (fun _ => False) w wr ∧ v = .slice (some ⟨g, 0, none⟩) j cap ∧ j ≤ cap ∧ wr.ownsRow w.heap.size 9 1 (.slice (some ⟨g, 0, none⟩) j cap) j ((isort (xs.take j)).map .string)

def SortPost (w : World) (xs : List ByteArray) (e : Ending) (w' : World) : Prop :=
  ∃ v, e = .returned v ∧ Chg (fun _ => False) w w' ∧ w'.ownsRow w.heap.size 9 1 v xs.length ((isort xs).map .string)

theorem sort_next {w w2 : World} {xs ys : List ByteArray} {x : ByteArray} {v : Value} {a j H : Nat} (hj : j < xs.length) (hx : x = xs[j]) (hy : ys = isort (xs.take j)) (hl : ys.length = j) (ha : a ≤ j)
    (h1 : ∀ i (h : i < ys.length), i < a → less ys[i] x = true) (h2 : ∀ (h : a < ys.length), less ys[a] x = false) (hH : w.heap.size ≤ H) (hchg : Chg (fun _ => False) w w2)
    (hown : w2.ownsRow H 9 1 v (a + (1 + (j - a))) ((ys.take a).map .string ++ ([.string x] ++ (ys.drop a).map .string))) : SortRel w xs v (.int .i64 ((j : Int) + 1)) w2 := by
  have e1 : a + (1 + (j - a)) = j + 1 := by omega
  rw [e1] at hown
  obtain ⟨g, cap, rfl, _, _⟩ := hown.form (by omega)
  have hcap : j + 1 ≤ cap := by
    rcases hown.2 with ⟨h, _⟩ | ⟨g', cap', cur, h, _, _, h3, _⟩
    · cases h
    · cases h; exact h3
  refine ⟨j + 1, cap, g, by omega, by go_num, hchg, rfl, hcap, ?_⟩
  rw [List.take_succ_eq_append_getElem hj, isort_snoc, ← hy, ← hx, insertS_at x ys a (by omega) h1 h2]
  simp only [List.map_append, List.map_cons, List.map_nil, List.append_assoc]
  rcases hown with ⟨e, h⟩
  refine ⟨e, ?_⟩
  rcases h with h | ⟨g', cap', cur, h, hb, rest⟩
  · exact .inl h
  · exact .inr ⟨g', cap', cur, h, by omega, rest⟩

/-- The old texts' cells, where the new ones have been laid in a block of their own. -/
theorem sort_olds {wr w1 : World} {B g j cap a : Nat} {xs ys : List ByteArray} {t : TypeId} {o : Obj} (hown : wr.ownsRow B t 1 (.slice (some ⟨g, 0, none⟩) j cap) j ((isort (xs.take j)).map .string)) (hy : ys = isort (xs.take j)) (ha : a ≤ j) (hg : g < wr.heap.size)
    (hgrow : (wr.alloc o).drew.grownBy w1 (some wr.heap.size)) : ∀ i u, ((ys.take a).map Value.string)[i]? = some u → w1.cell? ((⟨g, 0, none⟩ : Addr).add i) = some u := by
  intro i u hu
  have hadd : (⟨g, 0, none⟩ : Addr).add i = ⟨g, i, none⟩ := by unfold Addr.add; split <;> simp_all
  rw [List.getElem?_map, List.getElem?_take] at hu
  split at hu
  · rename_i hi
    have c := hown.cellAt i (by omega)
    rw [← hy, List.getElem?_map] at c
    rw [hadd, hgrow.cell_far ⟨g, i, none⟩ (by simp; omega) (by simp; omega)]
    show (wr.alloc o).cell? _ = _
    rw [World.cell?_alloc_lt _ _ _ hg, c, hu]
  · simp at hu

/-- The cells of the texts from a on, a new block beside them. -/
theorem sort_news {wr : World} {B g j cap a : Nat} {xs ys : List ByteArray} {t : TypeId} {o : Obj} (hown : wr.ownsRow B t 1 (.slice (some ⟨g, 0, none⟩) j cap) j ((isort (xs.take j)).map .string)) (hy : ys = isort (xs.take j)) (ha : ys.length = j) (hg : g < wr.heap.size) :
    ∀ i u, ((ys.drop a).map Value.string)[i]? = some u → (wr.alloc o).drew.cell? ((⟨g, a, none⟩ : Addr).add i) = some u := by
  intro i u hu
  have hadd : (⟨g, a, none⟩ : Addr).add i = ⟨g, a + i, none⟩ := by unfold Addr.add; split <;> simp_all
  have hi : a + i < j := by
    have := (List.getElem?_eq_some_iff.1 hu).1
    simp at this
    omega
  have c := hown.cellAt (a + i) (by omega)
  rw [← hy, List.getElem?_map] at c
  rw [List.getElem?_map, List.getElem?_drop] at hu
  show (wr.alloc o).cell? _ = _
  rw [hadd, World.cell?_alloc_lt _ _ _ hg, c, hu]

/-- at stands behind texts that stand before x. -/
def AtRel (ys : List ByteArray) (x : ByteArray) (i : Value) : Prop := ∃ a : Nat, a ≤ ys.length ∧ i = .int .i64 a ∧ ∀ i (h : i < ys.length), i < a → less ys[i] x = true

set_option maxHeartbeats 4000000 in
set_option maxRecDepth 100000 in
theorem sorted_some (g0 cap0 : Nat) (xs : List ByteArray) (w : World) (hc : ∀ i (h : i < xs.length), w.cell? ⟨g0, i, none⟩ = some (.string xs[i])) (hl : xs.length ≤ 1000) (hg0 : g0 < w.heap.size) :
    Calls Try.prog 29 #[.slice (some ⟨g0, 0, none⟩) xs.length cap0] w (SortPost w xs) := by
  obtain ⟨i0, hi, hz0, hz1, hz2⟩ := info_parts info9
  have HC := Lib.hid hc
  clear hc
  go_enter Try.func29, Try.ntmps29
  go_wp2
  go_loopw [3, 10] (fun v i wr => SortRel w xs v i wr) (fun _ i _ => xs.length - (intOf i).toNat)
  case atStart => exact ⟨0, 0, _, Nat.zero_le _, rfl, (Chg.refl _ _).alloc _, rfl, Nat.le_refl _, World.ownsRow_lit w #[] 0 (Nat.le_refl _) (Nat.zero_le _) rfl⟩
  case round =>
    obtain ⟨j, cap, g, hj, rfl, hchg, rfl, hcap, hown⟩ := hrel
    have hsz := hchg.size
    have HCH := Lib.hid hchg
    have HOW := Lib.hid hown
    have hgr : g < wr.heap.size := (hown.lt g rfl).2
    clear hchg hown
    by_cases hlt : j < xs.length
    · have c0 := HCH.out.cell (HC.out j hlt) (fun f => f)
      have hg1 : g0 < wr.heap.size := by omega
      obtain ⟨x, hx⟩ : ∃ x, x = xs[j] := ⟨_, rfl⟩
      obtain ⟨ys, hys⟩ : ∃ ys, ys = isort (xs.take j) := ⟨_, rfl⟩
      have hyl : ys.length = j := by rw [hys, isort_length, List.length_take]; omega
      rw [← hx] at c0
      have HX := Lib.hid hx
      have HY := Lib.hid hys
      have HL := Lib.hid hyl
      clear hx hys hyl
      go_wp2
      go_loop [6] (fun i => AtRel ys x i) (fun i => j - (intOf i).toNat)
      case atStart => exact ⟨0, Nat.zero_le _, rfl, fun i _ hi => absurd hi (Nat.not_lt_zero _)⟩
      case round =>
        obtain ⟨a, ha, rfl, hall⟩ := hrel
        have HA := Lib.hid hall
        clear hall
        have ha' : a ≤ j := by have := HL.out; omega
        by_cases hal : a < j
        · have hay : a < ys.length := by have := HL.out; omega
          have c1 : wr.cell? ⟨g, a, none⟩ = some (.string ys[a]) := by
            rw [HOW.out.cellAt a (by omega), ← HY.out, List.getElem?_map, List.getElem?_eq_getElem hay]; rfl
          by_cases hle : less ys[a] x = true
          · have HLE := Lib.hid hle
            have d : Op.bytesLess (ys[a]).toList x.toList = true := hle
            clear hle
            go_wp2
            refine ⟨⟨a + 1, by omega, by go_num, fun i hi hia => ?_⟩, by simp [intOf]; omega⟩
            rcases Nat.lt_or_ge i a with h | h
            · exact HA.out i hi h
            · obtain rfl : i = a := by omega
              exact HLE.out
          · have HLE : Hid (less ys[a] x = false) := Lib.hid (by simpa using hle)
            have d : Op.bytesLess (ys[a]).toList x.toList = false := by simpa [less] using hle
            clear hle
            go_wp2
            have b1 : (0 : Int) ≤ (a : Int) := by omega
            have b2 : (a : Int) ≤ (j : Int) := by omega
            have b3 : (j : Int) ≤ (cap : Int) := by omega
            have b4 : (a : Int) ≤ (cap : Int) := by omega
            obtain ⟨ad, had, hnews⟩ : ∃ ad : Addr, (if cap = a then some (⟨g, 0, none⟩ : Addr) else some ⟨g, a, none⟩) = some ad ∧ (∀ i u, ((ys.drop a).map Value.string)[i]? = some u → (wr.alloc (.cells #[.string x] 9)).drew.cell? (ad.add i) = some u) := by
              rw [if_neg (by omega)]
              exact ⟨_, rfl, sort_news HOW.out HY.out HL.out hgr⟩
            have HNW := Lib.hid hnews
            have HON := one_strings (ys.drop a)
            have HON2 : ∀ u ∈ ([Value.string x] ++ (ys.drop a).map Value.string), u.oneCell' = true := one_strings (x :: ys.drop a)
            clear hnews
            go_region_law (first | (refine step_append_lie0 (by rfl) (.tmp 33) (.tmp 36) 51 (by rfl) w.heap.size 9 i0 (.string ⟨#[]⟩) 1 16 Try.underlying51 hi hz0 hz1 hz2 (by rfl) (by omega) (.slice (some ⟨wr.heap.size, 0, none⟩) 1 1) 1 [.string x] (by rfl) (World.ownsRow_lit wr #[.string x] 1 hsz (by simp [maxLen]) rfl) ad (j - a) (cap - a) ((ys.drop a).map .string) (by rfl) (by have := HL.out; simp; omega) HNW.out HON (by omega) (by unfold maxLen; omega) (by omega) (by simp; omega) ?_; intro g1 cap1 w1 hown1 hgrow1 hat1 hlt1) | (refine step_append_grows (by rfl) (.tmp 31) (.tmp 37) 51 (by rfl) 9 i0 (.string ⟨#[]⟩) 1 16 Try.underlying51 hi hz0 hz1 hz2 (by rfl) (by omega) (some ⟨g, 0, none⟩) a a ((ys.take a).map .string) (by rfl) (fun h => by cases h) (by have := HL.out; simp; omega) (fun b hb i u hu => by cases hb; exact sort_olds HOW.out HY.out (by omega) hgr hgrow1 i u hu) ⟨g1, 0, none⟩ (1 + (j - a)) cap1 ([.string x] ++ (ys.drop a).map .string) (by rfl) (by have := HL.out; simp; omega) (hown1.cells rfl) HON2 (by omega) (by unfold maxLen; omega) (by omega) ?_; intro v2 w2 hown2 hgrow2))
            have HF : Hid (SortRel w xs v2 (.int .i64 ((j : Int) + 1)) w2) := Lib.hid (sort_next hlt HX.out HY.out HL.out ha' HA.out (fun _ => HLE.out) (by have := hgrow1.size; simp at this; omega) (((HCH.out.alloc _).drew.grown hgrow1 (fun b hb => by cases hb; exact .inr hsz)).grown hgrow2 (fun b hb => by cases hb)) hown2)
            clear hown1 hgrow1 hat1 hlt1 hown2 hgrow2 HNW HON HON2
            go_wp2
            exact ⟨HF.out, by simp [intOf]; omega⟩
        · go_wp2
          have b1 : (0 : Int) ≤ (a : Int) := by omega
          have b2 : (a : Int) ≤ (j : Int) := by omega
          have b3 : (j : Int) ≤ (cap : Int) := by omega
          have b4 : (a : Int) ≤ (cap : Int) := by omega
          obtain ⟨ad, had, hnews⟩ : ∃ ad : Addr, (if cap = a then some (⟨g, 0, none⟩ : Addr) else some ⟨g, a, none⟩) = some ad ∧ (∀ i u, ((ys.drop a).map Value.string)[i]? = some u → (wr.alloc (.cells #[.string x] 9)).drew.cell? (ad.add i) = some u) := by
            by_cases e : cap = a
            · rw [if_pos e]
              refine ⟨_, rfl, fun i u hu => ?_⟩
              have hz : ys.drop a = [] := List.drop_eq_nil_of_le (by have := HL.out; omega)
              rw [hz] at hu
              simp at hu
            · rw [if_neg e]
              exact ⟨_, rfl, sort_news HOW.out HY.out HL.out hgr⟩
          have HNW := Lib.hid hnews
          have HON := one_strings (ys.drop a)
          have HON2 : ∀ u ∈ ([Value.string x] ++ (ys.drop a).map Value.string), u.oneCell' = true := one_strings (x :: ys.drop a)
          clear hnews
          go_region_law (first | (refine step_append_lie0 (by rfl) (.tmp 33) (.tmp 36) 51 (by rfl) w.heap.size 9 i0 (.string ⟨#[]⟩) 1 16 Try.underlying51 hi hz0 hz1 hz2 (by rfl) (by omega) (.slice (some ⟨wr.heap.size, 0, none⟩) 1 1) 1 [.string x] (by rfl) (World.ownsRow_lit wr #[.string x] 1 hsz (by simp [maxLen]) rfl) ad (j - a) (cap - a) ((ys.drop a).map .string) (by rfl) (by have := HL.out; simp; omega) HNW.out HON (by omega) (by unfold maxLen; omega) (by omega) (by simp; omega) ?_; intro g1 cap1 w1 hown1 hgrow1 hat1 hlt1) | (refine step_append_grows (by rfl) (.tmp 31) (.tmp 37) 51 (by rfl) 9 i0 (.string ⟨#[]⟩) 1 16 Try.underlying51 hi hz0 hz1 hz2 (by rfl) (by omega) (some ⟨g, 0, none⟩) a a ((ys.take a).map .string) (by rfl) (fun h => by cases h) (by have := HL.out; simp; omega) (fun b hb i u hu => by cases hb; exact sort_olds HOW.out HY.out (by omega) hgr hgrow1 i u hu) ⟨g1, 0, none⟩ (1 + (j - a)) cap1 ([.string x] ++ (ys.drop a).map .string) (by rfl) (by have := HL.out; simp; omega) (hown1.cells rfl) HON2 (by omega) (by unfold maxLen; omega) (by omega) ?_; intro v2 w2 hown2 hgrow2))
          have HF : Hid (SortRel w xs v2 (.int .i64 ((j : Int) + 1)) w2) := Lib.hid (sort_next hlt HX.out HY.out HL.out ha' HA.out (fun h => absurd h (by have := HL.out; omega)) (by have := hgrow1.size; simp at this; omega) (((HCH.out.alloc _).drew.grown hgrow1 (fun b hb => by cases hb; exact .inr hsz)).grown hgrow2 (fun b hb => by cases hb)) hown2)
          clear hown1 hgrow1 hat1 hlt1 hown2 hgrow2 HNW HON HON2
          go_wp2
          exact ⟨HF.out, by simp [intOf]; omega⟩
    · have hj' : j = xs.length := by omega
      subst hj'
      have HW : Hid (wr.ownsRow w.heap.size 9 1 (.slice (some ⟨g, 0, none⟩) xs.length cap) xs.length ((isort xs).map .string)) := by
        have := HOW.out
        rw [List.take_length] at this
        exact this
      clear HOW
      go_wp2
      go_ret
      exact ⟨_, rfl, HCH.out, HW.out⟩

set_option maxHeartbeats 1000000 in
theorem sorted_none (a : Option Addr) (c : Nat) (w : World) : Calls Try.prog 29 #[.slice a 0 c] w (SortPost w []) := by
  go_enter Try.func29, Try.ntmps29
  go_wp2
  go_loop [3, 10] (fun v i => v = .slice (some ⟨w.heap.size, 0, none⟩) 0 0 ∧ i = .int .i64 0) (fun _ _ => 0)
  case atStart => exact ⟨rfl, rfl⟩
  case round =>
    obtain ⟨rfl, rfl⟩ := hrel
    go_wp2
    go_ret
    exact ⟨_, rfl, (Chg.refl _ _).alloc _, World.ownsRow_lit w #[] 0 (Nat.le_refl _) (Nat.zero_le _) rfl⟩

theorem sorted_any {w : World} {v : Value} {xs : List ByteArray} (h : Reads w v (xs.map .string)) (hl : xs.length ≤ 1000) : Calls Try.prog 29 #[v] w (SortPost w xs) := by
  rcases h with ⟨e, a, c, rfl⟩ | ⟨g, cap, rfl, h0, hc⟩
  · have e' : xs = [] := by simpa using e
    subst e'
    exact sorted_none a c w
  · have hc0 := hc 0 h0
    have := sorted_some g cap xs w (fun i hi => by rw [hc i (by simpa using hi)]; simp) hl (World.block_lt_of_cell? w _ hc0)
    simpa using this
end Go.Proofs.Ytipmpeekfajlcaa
