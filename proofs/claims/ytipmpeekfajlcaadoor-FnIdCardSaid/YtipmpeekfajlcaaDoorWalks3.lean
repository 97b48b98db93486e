/- The walks for the law FnId: the two ways to the unique name, and the law's own text. -/
import Derived.Test.YtipmpeekfajlcaaDoorWalks2
namespace Go.Proofs.YtipmpeekfajlcaaDoor
open Go.RowKit

/-- Does the text begin with a capital letter? -/
def bigB (s : ByteArray) (h : 0 < s.size) : Bool := decide (65 ≤ ((s[0]'h).toNat : Int) ∧ ((s[0]'h).toNat : Int) ≤ 90)

theorem isBig_any (s : ByteArray) (w : World) (h : 0 < s.size) : Calls Tryd.prog 10 #[.string s] w fun e w' => e = .returned (.bool (bigB s h)) ∧ w = w' := by
  by_cases h1 : 65 ≤ ((s[0]'h).toNat : Int)
  · by_cases h2 : ((s[0]'h).toNat : Int) ≤ 90
    · rw [show bigB s h = true from decide_eq_true ⟨h1, h2⟩]
      exact isBig_yes s w h h1 h2
    · rw [show bigB s h = false from decide_eq_false (by omega)]
      exact isBig_high s w h (by omega)
  · rw [show bigB s h = false from decide_eq_false (by omega)]
    exact isBig_low s w h (by omega)

set_option maxHeartbeats 1000000 in
theorem specId_yes (p n : ByteArray) (w : World) (h : 0 < n.size) (hu : bigB n h = true) : Calls Tryd.prog 7 #[.string p, .string n] w fun e w' => e = .returned (.string n) ∧ w = w' := by
  have HU := Lib.hid hu
  clear hu
  go_enter Tryd.func7, Tryd.ntmps7
  go_wp2_with (go_at_call 10; refine (isBig_any n _ h).mono ?_; rintro e w' ⟨rfl, rfl⟩; rw [HU.out])
  go_ret
  exact ⟨rfl, rfl⟩

set_option maxHeartbeats 1000000 in
theorem specId_no (p n : ByteArray) (w : World) (h : 0 < n.size) (hu : bigB n h = false) (hp : p.size ≤ 2147483647) (hn : n.size ≤ 2147483647) :
    Calls Tryd.prog 7 #[.string p, .string n] w fun e w' => e = .returned (.string (p ++ ⟨#[46]⟩ ++ n)) ∧ w = w' := by
  have HU := Lib.hid hu
  clear hu
  go_enter Tryd.func7, Tryd.ntmps7
  go_wp2_with (go_at_call 10; refine (isBig_any n _ h).mono ?_; rintro e w' ⟨rfl, rfl⟩; rw [HU.out])
  go_ret
  exact ⟨rfl, rfl⟩

set_option maxHeartbeats 1000000 in
theorem newPackage_any (p n : ByteArray) (w : World) : Calls Tryd.prog 9 #[.string p, .string n] w fun e w' => e = .returned (.pointer (some ⟨w.heap.size + 1, 0, none⟩)) ∧
    (w.alloc (.cells #[.pointer none, .slice none 0 0, .int .i64 0, .map none, .int .i64 0, .int .i64 0, .string ⟨#[112, 97, 99, 107, 97, 103, 101]⟩, .bool false, .bool false] 40)).alloc
      (.cells #[.string p, .string n, .pointer (some ⟨w.heap.size, 0, none⟩), .slice none 0 0, .bool false, .bool false, .bool false, .string ⟨#[]⟩] 31) = w' := by
  go_enter Tryd.func9, Tryd.ntmps9
  go_wp2
  go_ret
  exact ⟨rfl, rfl⟩

set_option maxHeartbeats 1000000 in
theorem id_yes (a : Addr) (n : ByteArray) (z : Int) (w : World) (h : 0 < n.size) (hb : ((n[0]'h).toNat : Int) < 128) (hc : w.cell? ⟨0, (n[0]'h).toNat, none⟩ = some (.int .u8 z)) (hu : (bits .and .u8 z 96 == 32) = true) :
    Calls Tryd.prog 8 #[.pointer (some a), .string n] w fun e w' => e = .returned (.string n) ∧ w = w' := by
  have HC := Lib.hid hc
  have HB := Lib.hid hb
  have HU := Lib.hid hu
  clear hc hb hu
  go_enter Tryd.func8, Tryd.ntmps8
  go_wp2_with (go_at_call 11; refine (exported_low n z _ h HB.out HC.out).mono ?_; rintro e w' ⟨rfl, rfl⟩; rw [HU.out])
  go_ret
  exact ⟨rfl, rfl⟩

set_option maxHeartbeats 1000000 in
theorem id_no (a : Addr) (p n : ByteArray) (z : Int) (w : World) (h : 0 < n.size) (hb : ((n[0]'h).toNat : Int) < 128) (hc : w.cell? ⟨0, (n[0]'h).toNat, none⟩ = some (.int .u8 z)) (hu : (bits .and .u8 z 96 == 32) = false)
    (ha : w.cell? a = some (.string p)) (hp0 : 0 < p.size) (hp : p.size ≤ 2147483647) (hn : n.size ≤ 2147483647) :
    Calls Tryd.prog 8 #[.pointer (some a), .string n] w fun e w' => e = .returned (.string (p ++ ⟨#[46]⟩ ++ n)) ∧ w = w' := by
  have HC := Lib.hid hc
  have HB := Lib.hid hb
  have HU := Lib.hid hu
  have hpe := not_empty hp0
  clear hc hb hu
  go_enter Tryd.func8, Tryd.ntmps8
  go_wp2_with (go_at_call 11; refine (exported_low n z _ h HB.out HC.out).mono ?_; rintro e w' ⟨rfl, rfl⟩; rw [HU.out])
  go_ret
  exact ⟨rfl, rfl⟩

/-- The unique name by its definition: the name if it begins with a capital letter, else the path, a point and the name. -/
def idText (p n : ByteArray) (h : 0 < n.size) : ByteArray := if bigB n h = true then n else p ++ ⟨#[46]⟩ ++ n

theorem specId_any (p n : ByteArray) (w : World) (h : 0 < n.size) (hp : p.size ≤ 2147483647) (hn : n.size ≤ 2147483647) :
    Calls Tryd.prog 7 #[.string p, .string n] w fun e w' => e = .returned (.string (idText p n h)) ∧ w = w' := by
  unfold idText
  cases hu : bigB n h with
  | true => rw [if_pos rfl]; exact specId_yes p n w h hu
  | false => rw [if_neg (fun e => by cases e)]; exact specId_no p n w h hu hp hn

theorem id_any (a : Addr) (p n : ByteArray) (z : Int) (w : World) (h : 0 < n.size) (hb : ((n[0]'h).toNat : Int) < 128) (hc : w.cell? ⟨0, (n[0]'h).toNat, none⟩ = some (.int .u8 z)) (hu : (bits .and .u8 z 96 == 32) = bigB n h)
    (ha : w.cell? a = some (.string p)) (hp0 : 0 < p.size) (hp : p.size ≤ 2147483647) (hn : n.size ≤ 2147483647) :
    Calls Tryd.prog 8 #[.pointer (some a), .string n] w fun e w' => e = .returned (.string (idText p n h)) ∧ w = w' := by
  unfold idText
  cases hu2 : bigB n h with
  | true => rw [if_pos rfl]; rw [hu2] at hu; exact id_yes a n z w h hb hc hu
  | false => rw [if_neg (fun e => by cases e)]; rw [hu2] at hu; exact id_no a p n z w h hb hc hu ha hp0 hp hn

/-- A cell lies in a block that is there. -/
theorem block_of_cell {w : World} {a : Addr} {v : Value} (h : w.cell? a = some v) : a.block < w.heap.size := by
  rcases Nat.lt_or_ge a.block w.heap.size with h' | h'
  · exact h'
  · exfalso
    unfold World.cell? at h
    rw [Array.getElem?_eq_none h'] at h
    simp at h

set_option maxHeartbeats 1000000 in
theorem idOf_any (p n : ByteArray) (z : Int) (w : World) (h : 0 < n.size) (hb : ((n[0]'h).toNat : Int) < 128) (hc : w.cell? ⟨0, (n[0]'h).toNat, none⟩ = some (.int .u8 z)) (hu : (bits .and .u8 z 96 == 32) = bigB n h)
    (hp0 : 0 < p.size) (hp : p.size ≤ 2147483647) (hn : n.size ≤ 2147483647) :
    Calls Tryd.prog 6 #[.string p, .string n] w fun e w' => e = .returned (.string (idText p n h)) ∧ Grown w w' := by
  have h0 := block_of_cell hc
  have HC := Lib.hid hc
  have HB := Lib.hid hb
  have HU := Lib.hid hu
  clear hc hb hu
  go_enter Tryd.func6, Tryd.ntmps6
  go_wp2_with (go_at_call 9; refine (newPackage_any p _ _).mono ?_; rintro e w' ⟨rfl, rfl⟩)
  refine (id_any _ p n z _ h HB.out ?hc HU.out ?ha hp0 hp hn).mono ?_
  case hc => rw [World.cell?_alloc_lt _ _ _ (by simp), World.cell?_alloc_lt _ _ _ (by simpa using h0)]; exact HC.out
  case ha => go_simp
  rintro e w' ⟨rfl, rfl⟩
  go_wp2
  go_ret
  exact ⟨rfl, by repeat (first | exact Grown.refl _ | apply Grown.drew | apply Grown.alloc)⟩

end Go.Proofs.YtipmpeekfajlcaaDoor
