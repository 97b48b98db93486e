/- How the program's scopes (the struct scopes) lie in memory, and the walks that only read them. -/
import Derived.Test.YtipmpeekfajlcaaSteps
import Derived.LaidEqlPtr
import Derived.LaidEql
import Derived.Handy
import Derived.Maps.Own
import Derived.Maps.Views
import Derived.Maps.OwnSet
namespace Go.Proofs.Ytipmpeekfajlcaa
open Go.RowKit

/-- Where scope p lies; none for one that is below 0. -/
def parA (sb : Nat → Nat) (p : Int) : Option Addr := if 0 ≤ p then some ⟨sb p.toNat, 0, none⟩ else none
theorem parA_nat (sb : Nat → Nat) (k : Nat) : parA sb k = some ⟨sb k, 0, none⟩ := by simp [parA]
theorem parA_none (sb : Nat → Nat) : parA sb (-1) = none := rfl

def ptrV (b : Nat) : Value := .pointer (some ⟨b, 0, none⟩)
def objV (b : Nat) : Value := .iface 77 (.pointer (some ⟨b, 0, none⟩))

/-- How the map's values read: an object by its block. -/
def objR : Value → Option (DataW Unit × List MemPlace)
  | .iface t (.pointer (some ⟨b, 0, none⟩)) => if t = 77 then some (.lit (.int .i64 b), []) else none
  | .nilIface => some (.nil, [])
  | _ => none

def keyL (s : ByteArray) : Lit := .string s.data.toList

/-- The map m holds the names ns and their objects os, which lie in the blocks ob. -/
def MapRep (w : World) (m : Option Nat) (ns : List ByteArray) (os : List Int) (ob : Nat → Nat) : Prop :=
  (m = none ∧ ns = []) ∨ ∃ b D, m = some b ∧ w.ownsMap Try.prog 9 objR b ns.length D ∧ Maps.size D = ns.length ∧
    ∀ s : ByteArray, (s ∈ ns → Maps.has D (keyL s) = true ∧ D.atKey (keyL s) DataW.nil = DataW.lit (.int .i64 (ob (findI ns os s).toNat))) ∧ (s ∉ ns → Maps.has D (keyL s) = false ∧ D.atKey (keyL s) DataW.nil = DataW.nil)

/-- The cells of a scope. -/
def scCells (p : Option Addr) (ka : Option Addr) (kn kc : Nat) (num : Int) (m : Option Nat) : Array Value :=
  #[.pointer p, .slice ka kn kc, .int .i64 num, .map m, .int .i64 0, .int .i64 0, .string ⟨#[97, 32, 115, 99, 111, 112, 101]⟩, .bool false, .bool false]

/-- Where the parts lie. -/
structure Pos where
  sb : Nat → Nat
  ka : Nat → Option Addr
  kc : Nat → Nat
  num : Nat → Int
  m : Nat → Option Nat
  ob : Nat → Nat
  oc : Nat → Array Value

/-- Block r is a struct scopes that reads as S; T tells to which part a block belongs. -/
structure ImplRep (B : Nat) (T : Nat → Nat) (w : World) (r : Nat) (S : Sts) (la oa : Option Addr) (lc oc : Nat) (p : Pos) : Prop where
  top : w.heap[r]? = some (.cells #[.slice la S.regs.length lc, .slice oa S.homes.length oc] 60 (0, 0))
  tr : T r = 1
  lrow : w.ownsRow B 37 1 (.slice la S.regs.length lc) S.regs.length ((List.range S.regs.length).map fun i => ptrV (p.sb i))
  tl : Tagged T (.slice la S.regs.length lc) 2
  orow : w.ownsRow B 84 1 (.slice oa S.homes.length oc) S.homes.length ((List.range S.homes.length).map fun i => objV (p.ob i))
  tob : Tagged T (.slice oa S.homes.length oc) 3
  sc : ∀ i, i < S.regs.length → w.heap[p.sb i]? = some (.cells (scCells (parA p.sb (S.reg i).par) (p.ka i) (S.kids i S.regs.length).length (p.kc i) (p.num i) (p.m i)) 69 (0, 0))
  ts : ∀ i, i < S.regs.length → T (p.sb i) = 4 + 4 * i
  krow : ∀ i, i < S.regs.length → w.ownsRow B 37 1 (.slice (p.ka i) (S.kids i S.regs.length).length (p.kc i)) (S.kids i S.regs.length).length ((S.kids i S.regs.length).map fun c => ptrV (p.sb c))
  tk : ∀ i, i < S.regs.length → Tagged T (.slice (p.ka i) (S.kids i S.regs.length).length (p.kc i)) (5 + 4 * i)
  mrep : ∀ i, i < S.regs.length → MapRep w (p.m i) (S.reg i).names (S.reg i).objs p.ob
  tm : ∀ i, i < S.regs.length → ∀ b, p.m i = some b → T b = 6 + 4 * i
  obj : ∀ o, o < S.homes.length → w.heap[p.ob o]? = some (.cells (p.oc o) 105 (0, 0)) ∧ (p.oc o)[0]? = some (.pointer (parA p.sb (S.homes.getD o (-1))))
  tj : ∀ o, o < S.homes.length → T (p.ob o) = 7 + 4 * o
  fresh : ∀ b, T b ≠ 0 → B ≤ b ∧ b < w.heap.size

def ImplAt (B : Nat) (T : Nat → Nat) (w : World) (r : Nat) (S : Sts) : Prop := ∃ la oa lc oc p, ImplRep B T w r S la oa lc oc p

section
variable {B : Nat} {T : Nat → Nat} {w w' : World} {r : Nat} {S : Sts} {la oa : Option Addr} {lc oc : Nat} {p : Pos}

theorem ImplRep.cell0 (h : ImplRep B T w r S la oa lc oc p) : w.cell? ⟨r, 0, none⟩ = some (.slice la S.regs.length lc) := by
  rw [cell_of_row w r 0 _ 60 (0, 0) h.top]; rfl
theorem ImplRep.cell1 (h : ImplRep B T w r S la oa lc oc p) : w.cell? ⟨r, 1, none⟩ = some (.slice oa S.homes.length oc) := by
  rw [cell_of_row w r 1 _ 60 (0, 0) h.top]; rfl
theorem ImplRep.sb_inj (h : ImplRep B T w r S la oa lc oc p) {i j : Nat} (hi : i < S.regs.length) (hj : j < S.regs.length) (e : p.sb i = p.sb j) : i = j := by
  have h1 := h.ts i hi
  have h2 := h.ts j hj
  rw [e] at h1
  omega
theorem ImplRep.ob_inj (h : ImplRep B T w r S la oa lc oc p) {i j : Nat} (hi : i < S.homes.length) (hj : j < S.homes.length) (e : p.ob i = p.ob j) : i = j := by
  have h1 := h.tj i hi
  have h2 := h.tj j hj
  rw [e] at h1
  omega

theorem MapRep.chg {m : Option Nat} {ns : List ByteArray} {os : List Int} {ob : Nat → Nat} (h : MapRep w m ns os ob) {M : Nat → Prop} (k : Chg M w w') (hn : ∀ b, m = some b → ¬ M b) : MapRep w' m ns os ob := by
  rcases h with h | ⟨b, D, rfl, hm, rest⟩
  · exact .inl h
  · refine .inr ⟨b, D, rfl, ?_, rest⟩
    obtain ⟨es, clock, hb, F, hs, hD⟩ := hm
    exact ⟨es, clock, k.heapAt hb (hn b rfl), F, hs, hD⟩

/-- What touches none of the parts keeps them. -/
theorem ImplRep.chg (h : ImplRep B T w r S la oa lc oc p) {M : Nat → Prop} (k : Chg M w w') (hM : ∀ b, M b → T b = 0) : ImplRep B T w' r S la oa lc oc p := by
  have hn : ∀ {v : Value} {t : Nat}, t ≠ 0 → Tagged T v t → ∀ g, v.ownBlock = some g → ¬ M g := fun ht hv g hg hm => ht ((hv g hg).symm.trans (hM g hm))
  have hb : ∀ {b t : Nat}, T b = t → t ≠ 0 → ¬ M b := fun hv ht hm => ht (hv.symm.trans (hM _ hm))
  exact { top := k.heapAt h.top (hb h.tr (by omega)), tr := h.tr, lrow := k.row h.lrow (hn (by omega) h.tl), tl := h.tl, orow := k.row h.orow (hn (by omega) h.tob), tob := h.tob
          sc := fun i hi => k.heapAt (h.sc i hi) (hb (h.ts i hi) (by omega)), ts := h.ts, krow := fun i hi => k.row (h.krow i hi) (hn (by omega) (h.tk i hi)), tk := h.tk
          mrep := fun i hi => (h.mrep i hi).chg k (fun b e => hb (h.tm i hi b e) (by omega)), tm := h.tm
          obj := fun o ho => ⟨k.heapAt (h.obj o ho).1 (hb (h.tj o ho) (by omega)), (h.obj o ho).2⟩, tj := h.tj
          fresh := fun b e => ⟨(h.fresh b e).1, Nat.lt_of_lt_of_le (h.fresh b e).2 k.size⟩ }
theorem ImplAt.chg (h : ImplAt B T w r S) {M : Nat → Prop} (k : Chg M w w') (hM : ∀ b, M b → T b = 0) : ImplAt B T w' r S := by
  obtain ⟨la, oa, lc, oc, p, h⟩ := h
  exact ⟨la, oa, lc, oc, p, h.chg k hM⟩
end

/-! ### scope -/
set_option maxHeartbeats 1000000 in
theorem scope_low (r : Nat) (k : Int) (w : World) (h1 : k < 0) :
    Calls Try.prog 31 #[.pointer (some ⟨r, 0, none⟩), .int .i64 k] w fun e w' => e = .returned (.pointer none) ∧ w = w' := by
  have d : decide (k < 0) = true := decide_eq_true h1
  go_enter Try.func31, Try.ntmps31
  go_wp2
  go_ret
  exact ⟨rfl, rfl⟩
set_option maxHeartbeats 1000000 in
theorem scope_high (r n c : Nat) (a : Option Addr) (k : Int) (w : World) (h0 : w.cell? ⟨r, 0, none⟩ = some (.slice a n c)) (h1 : 0 ≤ k) (h2 : (n : Int) ≤ k) :
    Calls Try.prog 31 #[.pointer (some ⟨r, 0, none⟩), .int .i64 k] w fun e w' => e = .returned (.pointer none) ∧ w = w' := by
  have d : decide (k < 0) = false := decide_eq_false (by omega)
  have d2 : decide ((n : Int) ≤ k) = true := decide_eq_true h2
  go_enter Try.func31, Try.ntmps31
  go_wp2
  go_ret
  exact ⟨rfl, rfl⟩
set_option maxHeartbeats 1000000 in
theorem scope_at (r n c g b : Nat) (k : Nat) (w : World) (h0 : w.cell? ⟨r, 0, none⟩ = some (.slice (some ⟨g, 0, none⟩) n c)) (h2 : k < n) (h3 : w.cell? ⟨g, k, none⟩ = some (.pointer (some ⟨b, 0, none⟩))) :
    Calls Try.prog 31 #[.pointer (some ⟨r, 0, none⟩), .int .i64 k] w fun e w' => e = .returned (.pointer (some ⟨b, 0, none⟩)) ∧ w = w' := by
  have d : decide ((k : Int) < 0) = false := decide_eq_false (by omega)
  have d2 : decide ((n : Int) ≤ (k : Int)) = false := decide_eq_false (by omega)
  have d3 : (k : Int) < (n : Int) := by omega
  have d4 : (0 : Int) ≤ (k : Int) := by omega
  go_enter Try.func31, Try.ntmps31
  go_wp2
  go_ret
  exact ⟨rfl, rfl⟩

/-- The scope with the number k, nil for none. -/
def scopeA (S : Sts) (sb : Nat → Nat) (k : Int) : Option Addr := if S.has k then parA sb k else none
theorem scope_any {B : Nat} {T : Nat → Nat} {w : World} {r : Nat} {S : Sts} {la oa : Option Addr} {lc oc : Nat} {p : Pos} (h : ImplRep B T w r S la oa lc oc p) (k : Int) :
    Calls Try.prog 31 #[.pointer (some ⟨r, 0, none⟩), .int .i64 k] w fun e w' => e = .returned (.pointer (scopeA S p.sb k)) ∧ w = w' := by
  unfold scopeA
  by_cases h1 : 0 ≤ k
  · by_cases h2 : k < S.regs.length
    · obtain ⟨i, rfl⟩ : ∃ i : Nat, k = (i : Int) := ⟨k.toNat, by omega⟩
      have hi : i < S.regs.length := by omega
      rw [if_pos ⟨h1, h2⟩, parA_nat]
      obtain ⟨g, cap, e, _, hg⟩ := h.lrow.form (by omega)
      have c0 := h.cell0
      rw [e] at c0
      refine scope_at r _ cap g _ i w c0 hi ?_
      have hl := h.lrow
      rw [e] at hl
      rw [hl.cellAt i (by omega), List.getElem?_map, List.getElem?_range hi]
      rfl
    · rw [if_neg (fun e => h2 e.2)]
      exact scope_high r _ lc la k w h.cell0 h1 (by omega)
  · rw [if_neg (fun e => h1 e.1)]
    exact scope_low r k w (by omega)
end Go.Proofs.Ytipmpeekfajlcaa
