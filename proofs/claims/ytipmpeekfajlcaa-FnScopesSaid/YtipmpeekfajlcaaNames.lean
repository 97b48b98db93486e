/- The walk of the program's Names: the names of a scope, sorted. -/
import Derived.Test.YtipmpeekfajlcaaScoped
import Derived.Test.YtipmpeekfajlcaaShelf
import Derived.Sort.KeysCollected
import Derived.Sort.Walk0
import Derived.Maps.RangeWalk
import Derived.Laws.IdiomRangeMap
namespace Go.Proofs.Ytipmpeekfajlcaa
open Go.RowKit

def toL (s : ByteArray) : List UInt8 := s.data.toList
theorem toL_inj {a b : ByteArray} (h : toL a = toL b) : a = b := ByteArray.ext (Array.toList_inj.1 h)
theorem less_eq (a b : ByteArray) : less a b = decide (toL a < toL b) := by
  unfold less toL
  rw [bytesLess_eq, ByteArray.toList_eq, ByteArray.toList_eq]

theorem insertS_perm (x : ByteArray) : ∀ ys : List ByteArray, (insertS x ys).Perm (x :: ys)
  | [] => List.Perm.refl _
  | y :: r => by
    unfold insertS
    split
    · exact ((insertS_perm x r).cons y).trans (List.Perm.swap x y r)
    · exact List.Perm.refl _
theorem insertS_sorted (x : ByteArray) : ∀ ys : List ByteArray, ys.Pairwise (fun a b => toL a ≤ toL b) → (insertS x ys).Pairwise (fun a b => toL a ≤ toL b)
  | [], _ => by simp [insertS]
  | y :: r, h => by
    obtain ⟨h1, h2⟩ := List.pairwise_cons.1 h
    unfold insertS
    split
    · rename_i hl
      rw [less_eq, decide_eq_true_eq] at hl
      refine List.pairwise_cons.2 ⟨fun a ha => ?_, insertS_sorted x r h2⟩
      rcases List.mem_cons.1 ((insertS_perm x r).mem_iff.1 ha) with e | ha
      · rw [e]; exact List.le_of_lt hl
      · exact h1 a ha
    · rename_i hl
      rw [less_eq, decide_eq_true_eq] at hl
      have hxy : toL x ≤ toL y := List.not_lt.1 hl
      refine List.pairwise_cons.2 ⟨fun a ha => ?_, h⟩
      rcases List.mem_cons.1 ha with e | ha
      · rw [e]; exact hxy
      · exact List.le_trans hxy (h1 a ha)
theorem isort_perm' : ∀ (xs acc : List ByteArray), (xs.foldl (fun out x => insertS x out) acc).Perm (acc ++ xs)
  | [], acc => by simp
  | x :: r, acc => by
    refine (isort_perm' r (insertS x acc)).trans ?_
    refine ((insertS_perm x acc).append_right r).trans ?_
    exact (List.perm_middle (a := x) (l₁ := acc) (l₂ := r)).symm
theorem isort_sorted' : ∀ (xs acc : List ByteArray), acc.Pairwise (fun a b => toL a ≤ toL b) → (xs.foldl (fun out x => insertS x out) acc).Pairwise (fun a b => toL a ≤ toL b)
  | [], _, h => h
  | x :: r, acc, h => isort_sorted' r (insertS x acc) (insertS_sorted x acc h)

/-- The sort of the library's and the reference's give one list. -/
theorem mergeSort_isort (ns : List ByteArray) : (ns.map toL).mergeSort (fun x y => decide (x ≤ y)) = (isort ns).map toL := by
  have tr : ∀ a b c : List UInt8, leB a b = true → leB b c = true → leB a c = true := fun a b c h1 h2 => by simp only [leB, decide_eq_true_eq] at *; exact List.le_trans h1 h2
  have to' : ∀ a b : List UInt8, (leB a b || leB b a) = true := fun a b => by simp only [leB, Bool.or_eq_true, decide_eq_true_eq]; exact List.le_total a b
  refine List.Perm.eq_of_pairwise (le := fun a b => leB a b = true) (fun a b _ _ h1 h2 => ?_) (List.pairwise_mergeSort tr to' _) ?_ ((List.mergeSort_perm _ leB).trans ?_)
  · simp only [leB, decide_eq_true_eq] at h1 h2
    exact List.le_antisymm h1 h2
  · refine List.pairwise_map.2 ((isort_sorted' ns [] List.Pairwise.nil).imp (fun h => ?_))
    simpa [leB] using h
  · have := (isort_perm' ns []).map toL
    simpa [isort] using this.symm

theorem collected_perm {D : DataW Unit} {left : Lit → Bool} {ks : List (List UInt8)} {ns : List ByteArray} (h : Collected D left ks) (hl : ∀ kl, left kl = false) (hnd : ns.Nodup) (hs : ∀ s : ByteArray, (s ∈ ns → Maps.has D (keyL s) = true) ∧ (s ∉ ns → Maps.has D (keyL s) = false)) : ks.Perm (ns.map toL) := by
  refine (List.perm_ext_iff_of_nodup h.1 ?_).2 fun x => ?_
  · exact List.pairwise_map.2 (hnd.imp (fun hne e => hne (toL_inj e)))
  · rw [h.2 x, List.mem_map]
    have hx : keyL ⟨x.toArray⟩ = .string x := by simp [keyL]
    constructor
    · rintro ⟨h1, _⟩
      refine ⟨⟨x.toArray⟩, Classical.byContradiction fun hno => ?_, by simp [toL]⟩
      have := (hs ⟨x.toArray⟩).2 hno
      rw [hx, h1] at this
      cases this
    · rintro ⟨s, hin, rfl⟩
      exact ⟨(hs s).1 hin, hl _⟩

/-- What Names gives. -/
def NamesPost (w : World) (ns : List ByteArray) (e : Ending) (w' : World) : Prop :=
  ∃ a c, e = .returned (.slice a ns.length c) ∧ Chg (fun _ => False) w w' ∧ Reads w' (.slice a ns.length c) ((isort ns).map .string) ∧ ∀ g, (Value.slice a ns.length c).ownBlock = some g → w.heap.size ≤ g ∧ g < w'.heap.size

theorem Chg.sorted {w w1 : World} {g n : Nat} {d : Array (List UInt8)} {os : Array Obj} (h : Chg (fun _ => False) w w1) (hg : w.heap.size ≤ g) : Chg (fun _ => False) w (Go.Sort.grow (Go.Sort.putRow encStr (Go.Sort.ahead w1 n) g 0 d) os) := by
  refine ⟨h.os, h.tape, h.output, ?_, fun k hk hn => ?_⟩
  · have := h.size
    simp [Go.Sort.grow, Go.Sort.ahead]
    omega
  · have h1 := h.block k hk hn
    have h2 : k < w1.heap.size := Nat.lt_of_lt_of_le hk h.size
    rw [← h1]
    simp only [Go.Sort.grow, Go.Sort.putRow, Go.Sort.mapBlock, Go.Sort.ahead]
    rw [Array.getElem?_append_left (by simp; omega), Array.getElem?_modify, if_neg (by omega)]

theorem grown_store (w : World) (p : Addr) (u : Value) : w.grownBy (w.setCell p u) (some p.block) :=
  ⟨rfl, rfl, rfl, by simp [World.setCell], fun i _ hi => Below.heap_setCell _ _ _ _ (fun e => hi (by rw [e]))⟩

/-- Where the walk over the map stands: the names ks have come out. -/
def NmRel (w : World) (r mb : Nat) (ns : List ByteArray) (D : DataW Unit) (v : Value) (wr : World) : Prop :=
  ∃ (left : Lit → Bool) (cnt : Nat) (ks : List (List UInt8)) (rest : List Value), wr.ranges Try.prog 9 objR mb r ns.length D left cnt ∧ v = .int .i64 ks.length ∧ ks.length + cnt ≤ ns.length ∧
    wr.ownsRow w.heap.size 9 1 (.slice (some ⟨w.heap.size, 0, none⟩) ns.length ns.length) ns.length (ks.map encStr ++ rest) ∧ Collected D left ks ∧ Chg (fun _ => False) w wr

theorem set_at {α : Type} (xs : List α) (y x : α) (rest : List α) : (xs ++ y :: rest).set xs.length x = (xs ++ [x]) ++ rest := by
  rw [List.set_append_right _ _ (Nat.le_refl _)]
  simp

theorem nm_holds {w : World} {B g n c : Nat} {ks : List (List UInt8)} {rest : List Value} (h : w.ownsRow B 9 1 (.slice (some ⟨g, 0, none⟩) n c) n (ks.map encStr ++ rest)) (hk : ks.length = n) : Go.Sort.Holds encStr w g 0 ks.toArray := by
  intro j hj
  have hj' : j < ks.length := by simpa using hj
  rw [Nat.zero_add]
  refine ⟨?_, h.frozenAt j⟩
  rw [h.cellAt j (by omega), List.getElem?_append_left (by simpa using hj'), List.getElem?_map, List.getElem?_eq_getElem hj']
  simp [hj']

theorem nm_far {w : World} {n c r g : Nat} (hr : w.heap.size < r) (e : (Value.slice (some ⟨w.heap.size, 0, none⟩) n c).ownBlock = some g) (h : g = r) : False := by
  have e' : w.heap.size = g := by simpa [Value.ownBlock] using e
  omega

theorem nm_more {w wr w' : World} {r mb : Nat} {ns : List ByteArray} {D : DataW Unit} {left : Lit → Bool} {cnt cnt' : Nat} {ks : List (List UInt8)} {u : Value} {rest : List Value} {x : List UInt8} {y : DataW Unit} (hr : w.heap.size < r) (hmb : mb < w.heap.size)
    (hc : ks.length + cnt ≤ ns.length) (hrow : wr.ownsRow w.heap.size 9 1 (.slice (some ⟨w.heap.size, 0, none⟩) ns.length ns.length) ns.length (ks.map encStr ++ u :: rest)) (hC : Collected D left ks) (hch : Chg (fun _ => False) w wr)
    (hlk : left (.string x) = true) (hat : ∀ zd, D.atKey (.string x) zd = y) (hrg' : w'.ranges Try.prog 9 objR mb r ns.length D (fun z => left z && !z.sameKey (.string x)) cnt') (hlt : cnt' < cnt) (hgr : wr.grownBy w' (some r)) :
    NmRel w r mb ns D (.int .i64 ((ks.length : Int) + 1)) (w'.setCell ⟨w.heap.size, ks.length, none⟩ (encStr x)) ∧ (w'.setCell ⟨w.heap.size, ks.length, none⟩ (encStr x)).rangeLeft mb r = cnt' := by
  have hrow' : w'.ownsRow w.heap.size 9 1 (.slice (some ⟨w.heap.size, 0, none⟩) ns.length ns.length) ns.length (ks.map encStr ++ u :: rest) := ((Chg.refl (fun i => i = r) wr).grown hgr (fun i e => .inl (by cases e; rfl))).row hrow (fun g e h => nm_far hr e h)
  have hst := (hrow'.stored ks.length (encStr x)).1
  have e := set_at (ks.map encStr) u (encStr x) rest
  rw [List.length_map] at e
  rw [e] at hst
  have hkp := hrg'.kept (row := some w.heap.size) (grown_store w' ⟨w.heap.size, ks.length, none⟩ (encStr x)) (by simp; omega) (by simp; omega)
  refine ⟨⟨_, cnt', ks ++ [x], rest, hkp, by simp, by simp; omega, by simpa using hst, hC.step hlk hat, ?_⟩, hkp.left_eq⟩
  refine (hch.grown hgr (fun i e => .inr (by cases e; omega))).setCell (p := ⟨w.heap.size, ks.length, none⟩) (.inr (Nat.le_refl _)) _

theorem nm_done {w wr : World} {n : Nat} {ns : List ByteArray} {ks : List (List UInt8)} {rest : List Value} {os : Array Obj} (hk : ks.length = ns.length) (hp : ks.Perm (ns.map toL))
    (hrow : wr.ownsRow w.heap.size 9 1 (.slice (some ⟨w.heap.size, 0, none⟩) ns.length ns.length) ns.length (ks.map encStr ++ rest)) (hch : Chg (fun _ => False) w wr) :
    NamesPost w ns (.returned (.slice (some ⟨w.heap.size, 0, none⟩) ns.length ns.length)) (Go.Sort.grow (Go.Sort.putRow encStr (Go.Sort.ahead wr n) w.heap.size 0 (ks.mergeSort fun x y => decide (x ≤ y)).toArray) os) := by
  have hm : (ks.mergeSort fun x y => decide (x ≤ y)) = (isort ns).map toL := (mergeSort_of_perm hp).trans (mergeSort_isort ns)
  have hil : (isort ns).length = ns.length := isort_length ns
  have hH := nm_holds hrow hk
  refine ⟨_, _, rfl, Chg.sorted hch (Nat.le_refl _), ?_, fun g e => ?_⟩
  by_cases hl0 : ns.length = 0
  · refine .inl ⟨?_, some ⟨w.heap.size, 0, none⟩, ns.length, by rw [hl0]⟩
    rw [List.map_eq_nil_iff]
    exact List.length_eq_zero_iff.1 (by omega)
  refine .inr ⟨w.heap.size, ns.length, by simp [hil], by simp; omega, fun i hi => ?_⟩
  · have hi' : i < (isort ns).length := by simpa using hi
    rw [hm]
    have hin : (⟨w.heap.size, i, none⟩ : Addr).block < (Go.Sort.putRow encStr (Go.Sort.ahead wr n) w.heap.size 0 ((isort ns).map toL).toArray).heap.size := by
      have := (hrow.lt w.heap.size rfl).2
      simpa [Go.Sort.ahead] using this
    have hcell := Go.Sort.cell?_putRow encStr (Go.Sort.ahead wr n) w.heap.size 0 ks.toArray ((isort ns).map toL).toArray hH (by simp; omega) i (by simpa using hi')
    have hg : (Go.Sort.grow (Go.Sort.putRow encStr (Go.Sort.ahead wr n) w.heap.size 0 ((isort ns).map toL).toArray) os).heap[w.heap.size]? = (Go.Sort.putRow encStr (Go.Sort.ahead wr n) w.heap.size 0 ((isort ns).map toL).toArray).heap[w.heap.size]? := Array.getElem?_append_left hin
    rw [World.cell?_of_block (a := ⟨w.heap.size, i, none⟩) hg]
    rw [Nat.zero_add] at hcell
    rw [hcell]
    simp [hi', toL, encStr]
  · have e' : w.heap.size = g := by simpa [Value.ownBlock] using e
    subst e'
    refine ⟨Nat.le_refl _, ?_⟩
    have := (hrow.lt w.heap.size rfl).2
    simp [Go.Sort.grow, Go.Sort.ahead]
    omega

set_option maxHeartbeats 4000000 in
set_option maxRecDepth 100000 in
theorem names_some (w : World) (b mb : Nat) (ns : List ByteArray) (D : DataW Unit) (c3 : w.cell? ⟨b, 3, none⟩ = some (.map (some mb))) (hown : w.ownsMap Try.prog 9 objR mb ns.length D) (hsz : Maps.size D = ns.length)
    (hs : ∀ s : ByteArray, (s ∈ ns → Maps.has D (keyL s) = true) ∧ (s ∉ ns → Maps.has D (keyL s) = false)) (hl : ns.length ≤ 1000) (hnd : ns.Nodup) :
    Calls Try.prog 37 #[.pointer (some ⟨b, 0, none⟩)] w (NamesPost w ns) := by
  have hbl : b < w.heap.size := World.block_lt_of_cell? w _ c3
  have hmb := hown.lt
  obtain ⟨i0, hi, hz0, hz1, hz2⟩ := info_parts info9
  have hlen : ∀ ty, (Builtin.len_ #[67] ty #[.map (some mb)]).run Try.prog w = .ok (.int .i64 ns.length) w := fun ty => by rw [hown.len und67 ty, hsz]
  have hlen3 := hlen 3
  have HO := Lib.hid hown
  have HS := Lib.hid hs
  clear hown hs hlen
  go_enter Try.func37, Try.ntmps37
  go_wp2_with (first
    | (at_make; refine wpList_make_full _ rfl _ _ 51 rfl w.heap.size 9 i0 (.string ⟨#[]⟩) 1 Try.underlying51 hi hz0 hz1 .i64 .i64 _ _ ns.length rfl rfl rfl rfl (by rw [hz2]; omega) (by unfold maxLen; omega) (Nat.le_refl _) ?_; intro w0 hown0 hgrow0; have c3' : w0.cell? ⟨b, 3, none⟩ = some (.map (some mb)) := hgrow0.cell c3 (by simp); have hm0 := HO.out.kept hgrow0 (by simp); have HO0 := Lib.hid hown0; have HG0 := Lib.hid hgrow0; have HM0 := Lib.hid hm0; clear hown0 hgrow0 hm0)
    | (at_range; refine wpList_range_own _ rfl _ 67 rfl 9 84 (Maps.string_keyed und9) und67 objR mb ns.length D rfl HM0.out ?_; intro w1 hrg1 hg1 hs1))
  go_frame
  have hr0 : w.heap.size < w0.heap.size := (HO0.out.lt w.heap.size rfl).2
  go_loopw [4] (fun v wr => NmRel w w0.heap.size mb ns D v wr) (fun _ wr => wr.rangeLeft mb w0.heap.size)
  case atStart =>
    have k0 : Chg (fun _ => False) w w0 := (Chg.refl _ w).grown HG0.out (fun i e => by cases e)
    have k1 : Chg (fun _ => False) w0 w1 := (Chg.refl _ w0).grown hg1 (fun i e => by cases e)
    refine ⟨_, _, [], (madeCells (Value.string ⟨#[]⟩).cells (ns.length * 1)).toList, hrg1, rfl, by simp; omega, ?_, Collected.start D, k0.trans k1 (fun _ f => f.elim)⟩
    exact k1.row HO0.out (fun _ _ f => f)
  case round =>
    obtain ⟨left, cnt, ks, rest, hrg, rfl, hcnt, hrow, hC, hch⟩ := hrel
    have HR := Lib.hid hrow
    have HC := Lib.hid hC
    have HCH := Lib.hid hch
    clear hrow hC hch
    go_wp2_with (at_next; refine wpList_next_ranges _ rfl _ rfl 9 (Maps.string_keyed und9) objR encStr (fun v : Value => v) (fun key kl h => by obtain ⟨x, hx, _⟩ := Maps.keyOf_str und9 h; exact ⟨x, hx⟩) (fun v y _ => ⟨v, rfl⟩) mb w0.heap.size ns.length D left cnt rfl hrg ?_ ?_)
    · intro hc0 hl0
      have hp := collected_perm HC.out hl0 hnd HS.out
      have hkl : ks.length = ns.length := by simpa using hp.length_eq
      have hcall := slices_Sort_string w.heap.size 0 ns.length ks wr (nm_holds HR.out hkl) (HR.out.lt w.heap.size rfl).2 (by omega)
      rw [hkl] at hcall
      have HCALL := Lib.hid hcall
      have HP := Lib.hid hp
      clear hcall hp hrg
      go_wp2_with (go_at_call 44; refine HCALL.out.mono ?_; rintro e w2 ⟨rfl, nn, os, hw2⟩)
      go_ret
      exact nm_done hkl HP.out HR.out HCH.out
    · intro x c kl y1 y2 w' cnt' hkey hlk hv hat hrg' hlt hgr hsz' hen
      obtain ⟨x', ex, rfl, hx⟩ := Maps.keyOf_str und9 hkey
      obtain rfl := encStr_inj ex
      have hrow' : w'.ownsRow w.heap.size 9 1 (.slice (some ⟨w.heap.size, 0, none⟩) ns.length ns.length) ns.length (ks.map encStr ++ rest) := ((Chg.refl (fun i => i = w0.heap.size) wr).grown hgr (fun i e => .inl (by cases e; rfl))).row HR.out (fun g e h => nm_far hr0 e h)
      have hkn : ks.length < ns.length := by omega
      obtain ⟨u, rest', rfl⟩ : ∃ u rest', rest = u :: rest' := by
        have := hrow'.1
        match rest with
        | [] => simp at this; omega
        | u :: r => exact ⟨u, r, rfl⟩
      have hcell : w'.cell? ⟨w.heap.size, ks.length, none⟩ = some u := by
        rw [hrow'.cellAt ks.length (by omega), List.getElem?_append_right (by simp)]
        simp
      have hfr : w'.frozen? ⟨w.heap.size, ks.length, none⟩ = false := hrow'.frozenAt _
      have hki : (ks.length : Int) < (ns.length : Int) := by omega
      have hk0 : (0 : Int) ≤ (ks.length : Int) := by omega
      have HN := Lib.hid (nm_more (x := x) hr0 hmb hcnt HR.out HC.out HCH.out hlk hat hrg' hlt hgr)
      have hleft0 := hrg.left_eq
      clear hkey hv hat hrg' hgr hrow' hlk hrg
      unfold encStr at hen HN ⊢
      go_wp2
      refine ⟨HN.out.1, ?_⟩
      rw [HN.out.2, hleft0]
      exact hlt

set_option maxHeartbeats 4000000 in
set_option maxRecDepth 100000 in
theorem names_nil (w : World) (b : Nat) (c3 : w.cell? ⟨b, 3, none⟩ = some (.map none)) :
    Calls Try.prog 37 #[.pointer (some ⟨b, 0, none⟩)] w (NamesPost w []) := by
  have hbl : b < w.heap.size := World.block_lt_of_cell? w _ c3
  obtain ⟨i0, hi, hz0, hz1, hz2⟩ := info_parts info9
  have hlen3 : (Builtin.len_ #[67] 3 #[.map none]).run Try.prog w = .ok (.int .i64 0) w := Maps.len_nil und67 3
  go_enter Try.func37, Try.ntmps37
  go_wp2_with (first
    | (at_make; refine wpList_make_full _ rfl _ _ 51 rfl w.heap.size 9 i0 (.string ⟨#[]⟩) 1 Try.underlying51 hi hz0 hz1 .i64 .i64 _ _ 0 rfl rfl rfl rfl (by rw [hz2]; omega) (by unfold maxLen; omega) (Nat.le_refl _) ?_; intro w0 hown0 hgrow0; have c3' : w0.cell? ⟨b, 3, none⟩ = some (.map none) := hgrow0.cell c3 (by simp); have hrg := run_range_nilMap (P := Try.prog) w0 67 9 84 und67; have hnx : ∀ ty, (Instr.next (.pointer (some ⟨w0.heap.size, 0, none⟩)) false ty).run Try.prog (w0.alloc (.mapIter none 0 #[] 0)) = _ := (fun ty => run_next_nilMap w0 ty 0 0 #[]); have HO0 := Lib.hid hown0; have HG0 := Lib.hid hgrow0; clear hown0 hgrow0))
  refine wp_loop_rounds 1 ?_
  rw [rounds_succ]
  go_wp2_with (go_at_call 44; refine (slices_Sort_string_none _ _ _).mono ?_; rintro e w2 ⟨rfl, hw2⟩)
  go_ret
  have k0 : Chg (fun _ => False) w w0 := (Chg.refl _ w).grown HG0.out (fun i e => by cases e)
  have hlt := (HO0.out.lt w.heap.size rfl).2
  refine ⟨some ⟨w.heap.size, 0, none⟩, 0, rfl, k0.alloc _, .inl ⟨rfl, _, _, rfl⟩, fun g e => ?_⟩
  have e' : w.heap.size = g := by simpa [Value.ownBlock] using e
  subst e'
  exact ⟨Nat.le_refl _, by simp; omega⟩

theorem names_any {w : World} {b : Nat} {m : Option Nat} {ns : List ByteArray} {os : List Int} {ob : Nat → Nat} (c3 : w.cell? ⟨b, 3, none⟩ = some (.map m)) (h : MapRep w m ns os ob) (hl : ns.length ≤ 1000) (hnd : ns.Nodup) :
    Calls Try.prog 37 #[.pointer (some ⟨b, 0, none⟩)] w (NamesPost w ns) := by
  rcases h with ⟨rfl, rfl⟩ | ⟨mb, D, rfl, hm, hsz, hs⟩
  · exact names_nil w b c3
  · exact names_some w b mb ns D c3 hm hsz (fun s => ⟨fun h => ((hs s).1 h).1, fun h => ((hs s).2 h).1⟩) hl hnd
end Go.Proofs.Ytipmpeekfajlcaa
