/- The walk of the program's insert: a name more in a scope's map. -/
import Derived.Test.YtipmpeekfajlcaaNewScope
namespace Go.Proofs.Ytipmpeekfajlcaa
open Go.RowKit

theorem keyL_ne {s x : ByteArray} (h : s ≠ x) : keyL s ≠ keyL x := fun e => h (by
  unfold keyL at e
  have e' : s.data.toList = x.data.toList := by simpa using e
  exact ByteArray.ext (Array.toList_inj.1 e'))

/-- A name more: the datum behind the store. -/
theorem map_put {w : World} {b : Nat} {ns : List ByteArray} {os : List Int} {ob : Nat → Nat} {D : DataW Unit} {x : ByteArray} {o : Nat} (hl : ns.length = os.length) (hx : x ∉ ns)
    (ht : Maps.Tidy D) (hm : Maps.IsMap D) (hsz : Maps.size D = ns.length)
    (hs : ∀ s : ByteArray, (s ∈ ns → Maps.has D (keyL s) = true ∧ D.atKey (keyL s) DataW.nil = DataW.lit (.int .i64 (ob (findI ns os s).toNat))) ∧ (s ∉ ns → Maps.has D (keyL s) = false ∧ D.atKey (keyL s) DataW.nil = DataW.nil))
    (hk : WideAt.IsKeyLit (keyL x)) (hown : w.ownsMap Try.prog 9 objR b (ns.length + 1) (D.put (keyL x) (.lit (.int .i64 (ob o))))) :
    MapRep w (some b) (ns ++ [x]) (os ++ [(o : Int)]) ob := by
  refine .inr ⟨b, _, rfl, by simpa using hown, ?_, fun s => ⟨fun hin => ?_, fun hout => ?_⟩⟩
  · rw [Maps.size_put ht, ((hs x).2 hx).1, hsz]
    simp
  · by_cases e : s = x
    · subst e
      refine ⟨Maps.has_put_same hm hk _, ?_⟩
      rw [Maps.atKey_put_same hm hk, findI_snoc_new s s _ ns os hl hx, if_pos rfl]
      simp
    · have hin' : s ∈ ns := by
        rcases List.mem_append.1 hin with h | h
        · exact h
        · simp at h; exact absurd h e
      refine ⟨?_, ?_⟩
      · rw [Maps.has_put_other (keyL_ne e)]; exact ((hs s).1 hin').1
      · rw [Maps.atKey_put_other (keyL_ne e), findI_snoc_old x s _ ns os hl hin']; exact ((hs s).1 hin').2
  · have e : s ≠ x := fun e => hout (by simp [e])
    have hout' : s ∉ ns := fun h => hout (by simp [h])
    refine ⟨?_, ?_⟩
    · rw [Maps.has_put_other (keyL_ne e)]; exact ((hs s).2 hout').1
    · rw [Maps.atKey_put_other (keyL_ne e)]; exact ((hs s).2 hout').2

theorem meq_none (w : World) : (binOp .eql 67 (.map none) (.map none)).run Try.prog w = .ok (.bool true) w := by
  have h : ∀ d : Nat, (Op.equalIn (d + 1) 67 (.map none) (.map none)).run Try.prog w = .ok true w := fun d => by simp [Op.equalIn, run_underlying und67]
  simp only [binOp]
  simp [Op.equal, Op.maxDepth, h 9999]
theorem meq_some (w : World) (b : Nat) : (binOp .eql 67 (.map (some b)) (.map none)).run Try.prog w = .ok (.bool false) w := by
  have h : ∀ d : Nat, (Op.equalIn (d + 1) 67 (.map (some b)) (.map none)).run Try.prog w = .ok false w := fun d => by simp [Op.equalIn, run_underlying und67]
  simp only [binOp]
  simp [Op.equal, Op.maxDepth, h 9999]

/-- What insert gives. -/
def PutPost (w : World) (b : Nat) (pa ka : Option Addr) (kn kc : Nat) (num : Int) (m : Option Nat) (ns : List ByteArray) (os : List Int) (ob : Nat → Nat) (x : ByteArray) (o : Nat) (e : Ending) (w' : World) : Prop :=
  e = .returned (.tuple #[]) ∧ ∃ mb, w'.heap[b]? = some (.cells (scCells pa ka kn kc num (some mb)) 69 (0, 0)) ∧ MapRep w' (some mb) (ns ++ [x]) (os ++ [(o : Int)]) ob ∧ (m = some mb ∨ w.heap.size ≤ mb) ∧ mb < w'.heap.size ∧ Chg (fun i => i = b ∨ m = some i) w w'

set_option maxHeartbeats 4000000 in
set_option maxRecDepth 100000 in
theorem put_old (w : World) (b : Nat) (pa ka : Option Addr) (kn kc : Nat) (num : Int) (mb : Nat) (ns : List ByteArray) (os : List Int) (ob : Nat → Nat) (x : ByteArray) (o : Nat) (hl : ns.length = os.length) (hx : x ∉ ns) (hxs : x.size ≤ maxLen) (hn : ns.length ≤ 1000)
    (hb : w.heap[b]? = some (.cells (scCells pa ka kn kc num (some mb)) 69 (0, 0))) (hm : MapRep w (some mb) ns os ob) (hne : mb ≠ b) :
    Calls Try.prog 43 #[.pointer (some ⟨b, 0, none⟩), .string x, .iface 77 (.pointer (some ⟨ob o, 0, none⟩))] w (PutPost w b pa ka kn kc num (some mb) ns os ob x o) := by
  have c3 : w.cell? ⟨b, 3, none⟩ = some (.map (some mb)) := cell_of_row w b 3 _ 69 (0, 0) hb
  have hbl : b < w.heap.size := (Array.getElem?_eq_some_iff.1 hb).1
  rcases hm with ⟨e, _⟩ | ⟨mb', D, e, hown, hsz, hs⟩
  · cases e
  cases e
  have hkey := WideMaps.keyOf_string_mk (P := Try.prog) und9 hxs
  have HB := Lib.hid hb
  have HO := Lib.hid hown
  have HS := Lib.hid hs
  have HK := Lib.hid hkey
  have HX := Lib.hid hx
  clear hb hown hs hkey hx
  have q := meq_some w mb
  go_enter Try.func43, Try.ntmps43
  go_wp2_with (at_mapUpdate; refine wpList_mapUpdate_own _ rfl _ _ _ 67 rfl 9 84 (Maps.string_keyed und9) und67 objR mb ns.length D rfl HO.out (by unfold maxLen; omega) _ _ (keyL x) rfl rfl HK.out (.lit (.int .i64 (ob o))) [] rfl ?_; intro w1 hown1 hgrow1)
  refine bodyPost_ret_by (results_none rfl _ _ _) rfl ?_
  have k : Chg (fun i => i = b ∨ some mb = some i) w w1 := Chg.grown (Chg.refl _ _) hgrow1 (fun i hi => .inl (.inr hi))
  refine ⟨rfl, mb, ?_, map_put hl HX.out (HO.out.tidy (Maps.string_keyed und9)) HO.out.isMap hsz HS.out ((Maps.string_keyed und9).key HK.out) hown1, .inl rfl, hown1.lt, k⟩
  exact (hgrow1.block b hbl (fun e => hne (by cases e; rfl))).trans HB.out

set_option maxHeartbeats 4000000 in
set_option maxRecDepth 100000 in
theorem put_new (w : World) (b : Nat) (pa ka : Option Addr) (kn kc : Nat) (num : Int) (os : List Int) (ob : Nat → Nat) (x : ByteArray) (o : Nat) (hl : os = []) (hxs : x.size ≤ maxLen)
    (hb : w.heap[b]? = some (.cells (scCells pa ka kn kc num none) 69 (0, 0))) :
    Calls Try.prog 43 #[.pointer (some ⟨b, 0, none⟩), .string x, .iface 77 (.pointer (some ⟨ob o, 0, none⟩))] w (PutPost w b pa ka kn kc num none [] os ob x o) := by
  subst hl
  have c3 : w.cell? ⟨b, 3, none⟩ = some (.map none) := cell_of_row w b 3 _ 69 (0, 0) hb
  have f3 : w.frozen? ⟨b, 3, none⟩ = false := frozen_of_row w b 3 _ 69 hb
  have hbl : b < w.heap.size := (Array.getElem?_eq_some_iff.1 hb).1
  have hkey := WideMaps.keyOf_string_mk (P := Try.prog) und9 hxs
  have HB := Lib.hid hb
  have HK := Lib.hid hkey
  clear hb hkey
  have q := meq_none w
  have hz : (w.setCell ⟨b, 3, none⟩ (.map (some w.heap.size))).heap.size = w.heap.size := by simp [World.setCell]
  have hm : ((w.setCell ⟨b, 3, none⟩ (.map (some w.heap.size))).alloc (.map #[] 0)).ownsMap Try.prog 9 objR w.heap.size 0 (.map []) := by
    have h := World.ownsMap_made (H := Unit) (w.setCell ⟨b, 3, none⟩ (.map (some w.heap.size))) Try.prog 9 objR
    rw [hz] at h
    exact h
  have HM := Lib.hid hm
  clear hm hz
  have q2 : (Instr.makeMap 67 none).run Try.prog w = .ok (.map (some w.heap.size)) (w.alloc (.map #[] 0)) := run_makeMap 67 w
  go_enter Try.func43, Try.ntmps43
  go_wp2_with (at_mapUpdate; refine wpList_mapUpdate_own _ rfl _ _ _ 67 rfl 9 84 (Maps.string_keyed und9) und67 objR w.heap.size 0 (.map []) rfl HM.out (by unfold maxLen; omega) _ _ (keyL x) rfl rfl HK.out (.lit (.int .i64 (ob o))) [] rfl ?_; intro w1 hown1 hgrow1)
  refine bodyPost_ret_by (results_none rfl _ _ _) rfl ?_
  have hput := map_put (ns := []) (os := []) (o := o) (ob := ob) rfl (by simp) (HM.out.tidy (Maps.string_keyed und9)) HM.out.isMap rfl (fun s => ⟨fun h => by simp at h, fun _ => ⟨rfl, rfl⟩⟩) ((Maps.string_keyed und9).key HK.out) hown1
  have hbn : b ≠ w.heap.size := by omega
  have e1 := heap_setCell_same w b 3 _ 69 (.map (some w.heap.size)) HB.out
  have e2 : ((w.setCell ⟨b, 3, none⟩ (.map (some w.heap.size))).alloc (.map #[] 0)).heap[b]? = _ := (Below.heap_alloc _ _ _ (by simp [World.setCell]; omega)).trans e1
  have e3 := (hgrow1.block b (by simp [World.setCell]; omega) (fun e => hbn (by cases e; rfl))).trans e2
  have k : Chg (fun i => i = b ∨ none = some i) w w1 := Chg.grown ((Chg.setCell (Chg.refl _ w) (p := ⟨b, 3, none⟩) (.inl (.inl rfl)) _).alloc _) hgrow1 (fun i hi => by cases hi; exact .inr (Nat.le_refl _))
  exact ⟨rfl, w.heap.size, e3, hput, .inr (Nat.le_refl _), hown1.lt, k⟩
end Go.Proofs.Ytipmpeekfajlcaa
