/- How the reference's scopes (the struct regions) lie in memory, and the walks that only read them: has, find. -/
import Derived.Test.YtipmpeekfajlcaaNamesWalks
import Derived.Test.YtipmpeekfajlcaaPure
import Derived.Test.YtipmpeekfajlcaaHeap
import Derived.WalkSpells
import Derived.WalkLawsBesides
import Derived.Lib.Hide
namespace Go.Proofs.Ytipmpeekfajlcaa
open Go.RowKit

/-- The cells of the list of regions: three a region. -/
def regF (S : Sts) (nv ov : Nat → Value) (j : Nat) : Value :=
  if j % 3 = 0 then .int .i64 (S.reg (j / 3)).par else if j % 3 = 1 then nv (j / 3) else ov (j / 3)

/-- Block r is a struct regions that reads as S: its two slices lv and hv, the slices nv i and ov i of region i; T tells to which part a block belongs. -/
structure SpecRep (B : Nat) (T : Nat → Nat) (w : World) (r : Nat) (S : Sts) (lv hv : Value) (nv ov : Nat → Value) : Prop where
  top : w.heap[r]? = some (.cells #[lv, hv] 50 (0, 0))
  tr : T r = 1
  br : B ≤ r
  lrow : w.ownsRow B 72 3 lv S.regs.length ((List.range (S.regs.length * 3)).map (regF S nv ov))
  tl : Tagged T lv 2
  hrow : w.ownsRow B 2 1 hv S.homes.length (S.homes.map (.int .i64))
  th : Tagged T hv 3
  nrow : ∀ i, i < S.regs.length → w.ownsRow B 9 1 (nv i) (S.reg i).names.length ((S.reg i).names.map .string)
  tn : ∀ i, i < S.regs.length → Tagged T (nv i) (4 + 2 * i)
  orow : ∀ i, i < S.regs.length → w.ownsRow B 2 1 (ov i) (S.reg i).objs.length ((S.reg i).objs.map (.int .i64))
  tob : ∀ i, i < S.regs.length → Tagged T (ov i) (5 + 2 * i)
  fresh : ∀ b, T b ≠ 0 → b < w.heap.size

def SpecAt (B : Nat) (T : Nat → Nat) (w : World) (r : Nat) (S : Sts) : Prop := ∃ lv hv nv ov, SpecRep B T w r S lv hv nv ov

/-- A region's slices, and where its three cells lie. -/
theorem SpecRep.at {B : Nat} {T : Nat → Nat} {w : World} {r : Nat} {S : Sts} {lv hv : Value} {nv ov : Nat → Value} (h : SpecRep B T w r S lv hv nv ov) {k : Nat} (hk : k < S.regs.length) :
    ∃ g cap, lv = .slice (some ⟨g, 0, none⟩) S.regs.length cap ∧ w.cell? ⟨g, k * 3, none⟩ = some (.int .i64 (S.reg k).par) ∧ w.cell? ⟨g, k * 3 + 1, none⟩ = some (nv k) ∧ w.cell? ⟨g, k * 3 + 2, none⟩ = some (ov k) ∧ g < w.heap.size := by
  obtain ⟨g, cap, rfl, _, hg⟩ := h.lrow.form (by omega)
  refine ⟨g, cap, rfl, ?_, ?_, ?_, hg⟩
  · rw [h.lrow.cellAt _ (by omega), List.getElem?_map, List.getElem?_range (by omega)]
    simp [regF]
  · rw [h.lrow.cellAt _ (by omega), List.getElem?_map, List.getElem?_range (by omega)]
    have e1 : (k * 3 + 1) % 3 = 1 := by omega
    have e2 : (k * 3 + 1) / 3 = k := by omega
    simp [regF, e1, e2]
  · rw [h.lrow.cellAt _ (by omega), List.getElem?_map, List.getElem?_range (by omega)]
    have e1 : (k * 3 + 2) % 3 = 2 := by omega
    have e2 : (k * 3 + 2) / 3 = k := by omega
    simp [regF, e1, e2]

theorem SpecRep.cell0 {B : Nat} {T : Nat → Nat} {w : World} {r : Nat} {S : Sts} {lv hv : Value} {nv ov : Nat → Value} (h : SpecRep B T w r S lv hv nv ov) : w.cell? ⟨r, 0, none⟩ = some lv := by
  rw [cell_of_row w r 0 _ 50 (0, 0) h.top]; rfl
theorem SpecRep.cell1 {B : Nat} {T : Nat → Nat} {w : World} {r : Nat} {S : Sts} {lv hv : Value} {nv ov : Nat → Value} (h : SpecRep B T w r S lv hv nv ov) : w.cell? ⟨r, 1, none⟩ = some hv := by
  rw [cell_of_row w r 1 _ 50 (0, 0) h.top]; rfl
theorem SpecRep.free {B : Nat} {T : Nat → Nat} {w : World} {r : Nat} {S : Sts} {lv hv : Value} {nv ov : Nat → Value} (h : SpecRep B T w r S lv hv nv ov) (j : Nat) : w.frozen? ⟨r, j, none⟩ = false :=
  frozen_of_row w r j _ 50 h.top

/-- What touches none of the parts keeps them. -/
theorem SpecRep.chg {B : Nat} {T : Nat → Nat} {w w' : World} {r : Nat} {S : Sts} {lv hv : Value} {nv ov : Nat → Value} (h : SpecRep B T w r S lv hv nv ov) {M : Nat → Prop} (k : Chg M w w') (hM : ∀ b, M b → T b = 0) : SpecRep B T w' r S lv hv nv ov := by
  have hn : ∀ {v : Value} {t : Nat}, t ≠ 0 → Tagged T v t → ∀ g, v.ownBlock = some g → ¬ M g := fun ht hv g hg hm => ht ((hv g hg).symm.trans (hM g hm))
  exact { top := k.heapAt h.top (fun hm => by have := hM r hm; rw [h.tr] at this; cases this), tr := h.tr, br := h.br
          lrow := k.row h.lrow (hn (by omega) h.tl), tl := h.tl, hrow := k.row h.hrow (hn (by omega) h.th), th := h.th
          nrow := fun i hi => k.row (h.nrow i hi) (hn (by omega) (h.tn i hi)), tn := h.tn
          orow := fun i hi => k.row (h.orow i hi) (hn (by omega) (h.tob i hi)), tob := h.tob
          fresh := fun b hb => Nat.lt_of_lt_of_le (h.fresh b hb) k.size }
theorem SpecAt.chg {B : Nat} {T : Nat → Nat} {w w' : World} {r : Nat} {S : Sts} (h : SpecAt B T w r S) {M : Nat → Prop} (k : Chg M w w') (hM : ∀ b, M b → T b = 0) : SpecAt B T w' r S := by
  obtain ⟨lv, hv, nv, ov, h⟩ := h
  exact ⟨lv, hv, nv, ov, h.chg k hM⟩

/-! ### has -/
set_option maxHeartbeats 1000000 in
theorem has_yes (r n cap : Nat) (g : Option Addr) (k : Int) (w : World) (h0 : w.cell? ⟨r, 0, none⟩ = some (.slice g n cap)) (h1 : 0 ≤ k) (h2 : k < n) :
    Calls Try.prog 26 #[.pointer (some ⟨r, 0, none⟩), .int .i64 k] w fun e w' => e = .returned (.bool true) ∧ w = w' := by
  have d2 : decide (k < (n : Int)) = true := decide_eq_true h2
  clear h2
  go_enter Try.func26, Try.ntmps26
  go_wp2
  go_ret
  exact ⟨rfl, rfl⟩
set_option maxHeartbeats 1000000 in
theorem has_high (r n cap : Nat) (g : Option Addr) (k : Int) (w : World) (h0 : w.cell? ⟨r, 0, none⟩ = some (.slice g n cap)) (h1 : 0 ≤ k) (h2 : (n : Int) ≤ k) :
    Calls Try.prog 26 #[.pointer (some ⟨r, 0, none⟩), .int .i64 k] w fun e w' => e = .returned (.bool false) ∧ w = w' := by
  have d2 : decide (k < (n : Int)) = false := decide_eq_false (by omega)
  clear h2
  go_enter Try.func26, Try.ntmps26
  go_wp2
  go_ret
  exact ⟨rfl, rfl⟩
set_option maxHeartbeats 1000000 in
theorem has_low (r : Nat) (k : Int) (w : World) (h1 : k < 0) :
    Calls Try.prog 26 #[.pointer (some ⟨r, 0, none⟩), .int .i64 k] w fun e w' => e = .returned (.bool false) ∧ w = w' := by
  go_enter Try.func26, Try.ntmps26
  go_wp2
  go_ret
  exact ⟨rfl, rfl⟩

/-- Is k a scope's number? -/
def hasB (S : Sts) (k : Int) : Bool := decide (S.has k)
theorem has_any {B : Nat} {T : Nat → Nat} {w : World} {r : Nat} {S : Sts} (h : SpecAt B T w r S) (k : Int) :
    Calls Try.prog 26 #[.pointer (some ⟨r, 0, none⟩), .int .i64 k] w fun e w' => e = .returned (.bool (hasB S k)) ∧ w = w' := by
  obtain ⟨lv, hv, nv, ov, h⟩ := h
  obtain ⟨a, c, rfl⟩ := row_shape h.lrow
  by_cases h1 : 0 ≤ k
  · by_cases h2 : k < S.regs.length
    · rw [show hasB S k = true from decide_eq_true ⟨h1, h2⟩]
      exact has_yes r _ c a k w h.cell0 h1 h2
    · rw [show hasB S k = false from decide_eq_false (fun e => h2 e.2)]
      exact has_high r _ c a k w h.cell0 h1 (by omega)
  · rw [show hasB S k = false from decide_eq_false (fun e => h1 e.1)]
    exact has_low r k w (by omega)

/-! ### find -/
theorem ret_i64 {a b : Int} (h : a = b) : Ending.returned (.int .i64 a) = .returned (.int .i64 b) := by rw [h]
theorem findI_here {ns : List ByteArray} {os : List Int} {x : ByteArray} {i : Nat} (hl : ns.length = os.length) (hi : i < ns.length) (e : ns[i] = x) : findI (ns.drop i) (os.drop i) x = os[i]'(by omega) := by
  rw [List.drop_eq_getElem_cons hi, List.drop_eq_getElem_cons (by omega : i < os.length), findI, if_pos e]
theorem findI_later {ns : List ByteArray} {os : List Int} {x : ByteArray} {i : Nat} (hl : ns.length = os.length) (hi : i < ns.length) (e : ¬ ns[i] = x) : findI (ns.drop i) (os.drop i) x = findI (ns.drop (i + 1)) (os.drop (i + 1)) x := by
  rw [List.drop_eq_getElem_cons hi, List.drop_eq_getElem_cons (by omega : i < os.length), findI, if_neg e]
theorem findI_end {ns : List ByteArray} {os : List Int} {x : ByteArray} {i : Nat} (hi : ns.length ≤ i) : findI (ns.drop i) (os.drop i) x = -1 := by
  rw [List.drop_eq_nil_of_le hi]; cases os.drop i <;> rfl
theorem toList_ne' {a b : ByteArray} (h : ¬ a = b) : (a.toList == b.toList) = false := by
  rw [beq_eq_false_iff_ne, ByteArray.toList_eq, ByteArray.toList_eq]
  intro e
  exact h (WideShapes.bytes_inj e)

set_option maxHeartbeats 1000000 in
theorem find_none (r g n cap k c : Nat) (a : Option Addr) (x : ByteArray) (w : World) (h0 : w.cell? ⟨r, 0, none⟩ = some (.slice (some ⟨g, 0, none⟩) n cap)) (hk : k < n)
    (h1 : w.cell? ⟨g, k * 3 + 1, none⟩ = some (.slice a 0 c)) :
    Calls Try.prog 28 #[.pointer (some ⟨r, 0, none⟩), .int .i64 k, .string x] w fun e w' => e = .returned (.int .i64 (-1)) ∧ w = w' := by
  go_enter Try.func28, Try.ntmps28
  go_wp2
  go_loop [18] (fun i => i = .int .i64 0) (fun _ => 0)
  case atStart => rfl
  case round =>
    subst hrel
    go_wp2
    go_ret
    exact ⟨rfl, rfl⟩

set_option maxHeartbeats 1000000 in
theorem find_some (r g n cap k gn cn go co : Nat) (ns : List ByteArray) (os : List Int) (x : ByteArray) (w : World) (h0 : w.cell? ⟨r, 0, none⟩ = some (.slice (some ⟨g, 0, none⟩) n cap)) (hk : k < n)
    (h1 : w.cell? ⟨g, k * 3 + 1, none⟩ = some (.slice (some ⟨gn, 0, none⟩) ns.length cn)) (h2 : w.cell? ⟨g, k * 3 + 2, none⟩ = some (.slice (some ⟨go, 0, none⟩) os.length co))
    (hn : ∀ i (h : i < ns.length), w.cell? ⟨gn, i, none⟩ = some (.string ns[i])) (ho : ∀ i (h : i < os.length), w.cell? ⟨go, i, none⟩ = some (.int .i64 os[i])) (hl : ns.length = os.length) (hb : ns.length ≤ 1000) :
    Calls Try.prog 28 #[.pointer (some ⟨r, 0, none⟩), .int .i64 k, .string x] w fun e w' => e = .returned (.int .i64 (findI ns os x)) ∧ w = w' := by
  have HL := Lib.hid hl
  have HN := Lib.hid hn
  have HO := Lib.hid ho
  clear hl hn ho
  go_enter Try.func28, Try.ntmps28
  go_wp2
  go_loop [18] (fun i => ∃ j : Nat, j ≤ ns.length ∧ i = .int .i64 j ∧ findI ns os x = findI (ns.drop j) (os.drop j) x) (fun i => ns.length - (intOf i).toNat)
  case atStart => exact ⟨0, Nat.zero_le _, rfl, rfl⟩
  case round =>
    obtain ⟨j, hj, rfl, hf⟩ := hrel
    have HF := Lib.hid hf
    clear hf
    by_cases hlt : j < ns.length
    · have c1 := HN.out j hlt
      have hlo : j < os.length := by have := HL.out; omega
      have c2 := HO.out j hlo
      by_cases e : ns[j] = x
      · have HE := Lib.hid e
        have d : ((ns[j]).toList == x.toList) = true := by rw [e]; exact beq_self_eq_true _
        clear e
        go_wp2
        go_ret
        exact ⟨ret_i64 (HF.out.trans (findI_here HL.out hlt HE.out)).symm, rfl⟩
      · have HE := Lib.hid e
        have d := toList_ne' e
        clear e
        go_wp2
        exact ⟨⟨j + 1, by omega, by go_num, by rw [HF.out, findI_later HL.out hlt HE.out]⟩, by simp [intOf]; omega⟩
    · go_wp2
      go_ret
      exact ⟨ret_i64 (HF.out.trans (findI_end (by omega))).symm, rfl⟩

theorem find_any {B : Nat} {T : Nat → Nat} {w : World} {r : Nat} {S : Sts} (h : SpecAt B T w r S) (hS : S.WF) (hm : S.homes.length ≤ 1000) (k : Nat) (hk : k < S.regs.length) (x : ByteArray) :
    Calls Try.prog 28 #[.pointer (some ⟨r, 0, none⟩), .int .i64 k, .string x] w fun e w' => e = .returned (.int .i64 (findI (S.reg k).names (S.reg k).objs x)) ∧ w = w' := by
  obtain ⟨lv, hv, nv, ov, h⟩ := h
  obtain ⟨g, cap, rfl, _, c1, c2, _⟩ := h.at hk
  have hlen := hS.len k hk
  have hfew := hS.few k hk
  rcases reads_of_row (h.nrow k hk) with ⟨e, a, c, hv1⟩ | ⟨gn, cn, hv1, h1, hn⟩
  · have e' : (S.reg k).names = [] := by simpa using e
    rw [hv1] at c1
    rw [e']
    have := find_none r g _ cap k c a x w h.cell0 hk c1
    simpa [findI] using this
  · rcases reads_of_row (h.orow k hk) with ⟨e, _⟩ | ⟨go, co, hv2, _, ho⟩
    · have e' : (S.reg k).objs = [] := by simpa using e
      simp at h1
      rw [e'] at hlen
      simp at hlen
      simp [hlen] at h1
    · rw [hv1] at c1
      rw [hv2] at c2
      simp only [List.length_map] at c1 c2 hn ho
      exact find_some r g _ cap k gn cn go co _ _ x w h.cell0 hk c1 c2 (fun i hi => by rw [hn i hi]; simp) (fun i hi => by rw [ho i hi]; simp) hlen (by omega)

end Go.Proofs.Ytipmpeekfajlcaa
