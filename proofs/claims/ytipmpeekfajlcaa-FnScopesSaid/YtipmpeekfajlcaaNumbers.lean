/- The walks of the program's numberOf and objectOf. -/
import Derived.Test.YtipmpeekfajlcaaImplRep
namespace Go.Proofs.Ytipmpeekfajlcaa
open Go.RowKit

theorem und37 : Try.prog.underlying 37 = some (.pointer 69) := by kernel_rfl
theorem und77 : Try.prog.underlying 77 = some (.pointer 105) := by kernel_rfl
theorem size69 : (Try.prog.info? 69).map (·.size) = some 9 := by kernel_rfl
theorem size105 : (Try.prog.info? 105).map (·.size) = some 10 := by kernel_rfl
theorem comp77 : (Try.prog.info? 77).map (·.comparable) = some true := by kernel_rfl
theorem info_of {α : Type} {f : TypeInfo → α} {t : TypeId} {x : α} (h : (Try.prog.info? t).map f = some x) : ∃ i, Try.prog.info? t = some i ∧ f i = x := by
  cases e : Try.prog.info? t with
  | none => rw [e] at h; cases h
  | some i => rw [e] at h; exact ⟨i, rfl, by simpa using h⟩

theorem eq_same (w : World) (b : Nat) : (binOp .eql 37 (.pointer (some ⟨b, 0, none⟩)) (.pointer (some ⟨b, 0, none⟩))).run Try.prog w = .ok (.bool true) w := by
  obtain ⟨i, hi, _⟩ := info_of size69
  exact run_eql_ptr_same w _ und37 hi
theorem eq_other (w : World) {b c : Nat} {cb cc : Array Value} {tb tc : TypeId} (hne : b ≠ c) (hb : w.heap[b]? = some (.cells cb tb (0, 0))) (hc : w.heap[c]? = some (.cells cc tc (0, 0))) :
    (binOp .eql 37 (.pointer (some ⟨b, 0, none⟩)) (.pointer (some ⟨c, 0, none⟩))).run Try.prog w = .ok (.bool false) w := by
  obtain ⟨i, hi, hs⟩ := info_of size69
  exact run_eql_ptr_other w und37 hi (by rw [hs]; decide) (fun e => hne (by cases e; rfl)) hb hc

set_option maxHeartbeats 1000000 in
theorem numberOf_empty (r c : Nat) (a x : Option Addr) (w : World) (h0 : w.cell? ⟨r, 0, none⟩ = some (.slice a 0 c)) :
    Calls Try.prog 39 #[.pointer (some ⟨r, 0, none⟩), .pointer x] w fun e w' => e = .returned (.int .i64 (-1)) ∧ w = w' := by
  go_enter Try.func39, Try.ntmps39
  go_wp2
  go_loop [12] (fun i => i = .int .i64 0) (fun _ => 0)
  case atStart => rfl
  case round =>
    subst hrel
    go_wp2
    go_ret
    exact ⟨rfl, rfl⟩

set_option maxHeartbeats 2000000 in
theorem numberOf_nil (r n g c : Nat) (sb : Nat → Nat) (w : World) (h0 : w.cell? ⟨r, 0, none⟩ = some (.slice (some ⟨g, 0, none⟩) n c)) (hn : n ≤ 1000) (hc : ∀ j, j < n → w.cell? ⟨g, j, none⟩ = some (.pointer (some ⟨sb j, 0, none⟩))) :
    Calls Try.prog 39 #[.pointer (some ⟨r, 0, none⟩), .pointer none] w fun e w' => e = .returned (.int .i64 (-1)) ∧ w = w' := by
  have HC := Lib.hid hc
  clear hc
  go_enter Try.func39, Try.ntmps39
  go_wp2
  go_loop [12] (fun i => ∃ j : Nat, j ≤ n ∧ i = .int .i64 j) (fun i => n - (intOf i).toNat)
  case atStart => exact ⟨0, Nat.zero_le _, rfl⟩
  case round =>
    obtain ⟨j, hj, rfl⟩ := hrel
    by_cases hlt : j < n
    · have c1 := HC.out j hlt
      go_wp2
      exact ⟨⟨j + 1, by omega, by go_num⟩, by simp [intOf]; omega⟩
    · go_wp2
      go_ret
      exact ⟨rfl, rfl⟩

set_option maxHeartbeats 2000000 in
theorem numberOf_at (r n g c : Nat) (sb : Nat → Nat) (w : World) (k : Nat) (h0 : w.cell? ⟨r, 0, none⟩ = some (.slice (some ⟨g, 0, none⟩) n c)) (hn : n ≤ 1000) (hk : k < n) (hc : ∀ j, j < n → w.cell? ⟨g, j, none⟩ = some (.pointer (some ⟨sb j, 0, none⟩)))
    (hq : ∀ j, j < n → (binOp .eql 37 (.pointer (some ⟨sb j, 0, none⟩)) (.pointer (some ⟨sb k, 0, none⟩))).run Try.prog w = .ok (.bool (decide (j = k))) w) :
    Calls Try.prog 39 #[.pointer (some ⟨r, 0, none⟩), .pointer (some ⟨sb k, 0, none⟩)] w fun e w' => e = .returned (.int .i64 k) ∧ w = w' := by
  have HC := Lib.hid hc
  have HQ := Lib.hid hq
  clear hc hq
  go_enter Try.func39, Try.ntmps39
  go_wp2
  go_loop [12] (fun i => ∃ j : Nat, j ≤ k ∧ i = .int .i64 j) (fun i => n - (intOf i).toNat)
  case atStart => exact ⟨0, Nat.zero_le _, rfl⟩
  case round =>
    obtain ⟨j, hj, rfl⟩ := hrel
    have hlt : j < n := by omega
    have c1 := HC.out j hlt
    by_cases e : j = k
    · subst e
      have q := HQ.out j hlt
      rw [decide_eq_true rfl] at q
      go_wp2
      go_ret
      exact ⟨rfl, rfl⟩
    · have q := HQ.out j hlt
      rw [decide_eq_false e] at q
      go_wp2
      exact ⟨⟨j + 1, by omega, by go_num⟩, by simp [intOf]; omega⟩

theorem numberOf_any {B : Nat} {T : Nat → Nat} {w : World} {r : Nat} {S : Sts} {la oa : Option Addr} {lc oc : Nat} {p : Pos} (h : ImplRep B T w r S la oa lc oc p) (hn : S.regs.length ≤ 1000) (x : Int) (h1 : -1 ≤ x) (h2 : x < S.regs.length) :
    Calls Try.prog 39 #[.pointer (some ⟨r, 0, none⟩), .pointer (parA p.sb x)] w fun e w' => e = .returned (.int .i64 x) ∧ w = w' := by
  have c0 := h.cell0
  by_cases h3 : x = -1
  · subst h3
    rw [parA_none]
    by_cases h4 : S.regs.length = 0
    · rw [h4] at c0
      exact numberOf_empty r lc la none w c0
    · obtain ⟨g, cap, e, _, hg⟩ := h.lrow.form (by omega)
      have hl := h.lrow
      rw [e] at hl c0
      refine numberOf_nil r _ g _ p.sb w c0 hn (fun j hj => ?_)
      rw [hl.cellAt j (by omega), List.getElem?_map, List.getElem?_range hj]
      rfl
  · obtain ⟨k, rfl⟩ : ∃ k : Nat, x = (k : Int) := ⟨x.toNat, by omega⟩
    have hk : k < S.regs.length := by omega
    rw [parA_nat]
    obtain ⟨g, cap, e, _, hg⟩ := h.lrow.form (by omega)
    have hl := h.lrow
    rw [e] at hl c0
    refine numberOf_at r _ g _ p.sb w k c0 hn hk (fun j hj => ?_) (fun j hj => ?_)
    · rw [hl.cellAt j (by omega), List.getElem?_map, List.getElem?_range hj]
      rfl
    · by_cases e : j = k
      · subst e
        rw [decide_eq_true rfl]
        exact eq_same w _
      · rw [decide_eq_false e]
        exact eq_other w (fun e' => e (h.sb_inj hj hk e')) (h.sc j hj) (h.sc k hk)

/-! ### objectOf -/
theorem und84 : ∃ ms, Try.prog.underlying 84 = some (.interface ms) := by
  have h : (match Try.prog.underlying 84 with | some (.interface _) => true | _ => false) = true := by kernel_rfl
  split at h
  · rename_i ms e; exact ⟨ms, e⟩
  · cases h
theorem oeq_same (w : World) (b : Nat) : (binOp .eql 84 (.iface 77 (.pointer (some ⟨b, 0, none⟩))) (.iface 77 (.pointer (some ⟨b, 0, none⟩)))).run Try.prog w = .ok (.bool true) w := by
  obtain ⟨ms, hm⟩ := und84
  obtain ⟨i, hi, _⟩ := info_of size105
  obtain ⟨j, hj, hc⟩ := info_of comp77
  exact run_eql_iface_ptr_same w _ hm und77 hj hc hi
theorem oeq_other (w : World) {b c : Nat} {cb cc : Array Value} {tb tc : TypeId} (hne : b ≠ c) (hb : w.heap[b]? = some (.cells cb tb (0, 0))) (hc : w.heap[c]? = some (.cells cc tc (0, 0))) :
    (binOp .eql 84 (.iface 77 (.pointer (some ⟨b, 0, none⟩))) (.iface 77 (.pointer (some ⟨c, 0, none⟩)))).run Try.prog w = .ok (.bool false) w := by
  obtain ⟨ms, hm⟩ := und84
  obtain ⟨i, hi, hs⟩ := info_of size105
  obtain ⟨j, hj, hcm⟩ := info_of comp77
  exact run_eql_iface_ptr_other w hm und77 hj hcm hi (by rw [hs]; decide) (fun e => hne (by cases e; rfl)) hb hc

set_option maxHeartbeats 2000000 in
theorem objectOf_nil (r n g c : Nat) (a : Option Addr) (ob : Nat → Nat) (w : World) (h0 : w.cell? ⟨r, 1, none⟩ = some (.slice a n c)) (hn : n ≤ 1000) (ha : 0 < n → a = some ⟨g, 0, none⟩) (hc : ∀ j, j < n → w.cell? ⟨g, j, none⟩ = some (.iface 77 (.pointer (some ⟨ob j, 0, none⟩)))) :
    Calls Try.prog 34 #[.pointer (some ⟨r, 0, none⟩), .nilIface] w fun e w' => e = .returned (.int .i64 (-1)) ∧ w = w' := by
  have HC := Lib.hid hc
  have HA := Lib.hid ha
  clear hc ha
  go_enter Try.func34, Try.ntmps34
  go_wp2
  go_loop [12] (fun i => ∃ j : Nat, j ≤ n ∧ i = .int .i64 j) (fun i => n - (intOf i).toNat)
  case atStart => exact ⟨0, Nat.zero_le _, rfl⟩
  case round =>
    obtain ⟨j, hj, rfl⟩ := hrel
    by_cases hlt : j < n
    · have c1 := HC.out j hlt
      have ha := HA.out (by omega)
      subst ha
      go_wp2
      exact ⟨⟨j + 1, by omega, by go_num⟩, by simp [intOf]; omega⟩
    · go_wp2
      go_ret
      exact ⟨rfl, rfl⟩

set_option maxHeartbeats 2000000 in
theorem objectOf_at (r n g c : Nat) (ob : Nat → Nat) (w : World) (k : Nat) (h0 : w.cell? ⟨r, 1, none⟩ = some (.slice (some ⟨g, 0, none⟩) n c)) (hn : n ≤ 1000) (hk : k < n) (hc : ∀ j, j < n → w.cell? ⟨g, j, none⟩ = some (.iface 77 (.pointer (some ⟨ob j, 0, none⟩))))
    (hq : ∀ j, j < n → (binOp .eql 84 (.iface 77 (.pointer (some ⟨ob j, 0, none⟩))) (.iface 77 (.pointer (some ⟨ob k, 0, none⟩)))).run Try.prog w = .ok (.bool (decide (j = k))) w) :
    Calls Try.prog 34 #[.pointer (some ⟨r, 0, none⟩), .iface 77 (.pointer (some ⟨ob k, 0, none⟩))] w fun e w' => e = .returned (.int .i64 k) ∧ w = w' := by
  have HC := Lib.hid hc
  have HQ := Lib.hid hq
  clear hc hq
  go_enter Try.func34, Try.ntmps34
  go_wp2
  go_loop [12] (fun i => ∃ j : Nat, j ≤ k ∧ i = .int .i64 j) (fun i => n - (intOf i).toNat)
  case atStart => exact ⟨0, Nat.zero_le _, rfl⟩
  case round =>
    obtain ⟨j, hj, rfl⟩ := hrel
    have hlt : j < n := by omega
    have c1 := HC.out j hlt
    by_cases e : j = k
    · subst e
      have q := HQ.out j hlt
      rw [decide_eq_true rfl] at q
      go_wp2
      go_ret
      exact ⟨rfl, rfl⟩
    · have q := HQ.out j hlt
      rw [decide_eq_false e] at q
      go_wp2
      exact ⟨⟨j + 1, by omega, by go_num⟩, by simp [intOf]; omega⟩

/-- The value of the object with the number x, nil for none. -/
def objA (ob : Nat → Nat) (x : Int) : Value := if 0 ≤ x then .iface 77 (.pointer (some ⟨ob x.toNat, 0, none⟩)) else .nilIface

theorem objectOf_any {B : Nat} {T : Nat → Nat} {w : World} {r : Nat} {S : Sts} {la oa : Option Addr} {lc oc : Nat} {p : Pos} (h : ImplRep B T w r S la oa lc oc p) (hn : S.homes.length ≤ 1000) (x : Int) (h1 : -1 ≤ x) (h2 : x < S.homes.length) :
    Calls Try.prog 34 #[.pointer (some ⟨r, 0, none⟩), objA p.ob x] w fun e w' => e = .returned (.int .i64 x) ∧ w = w' := by
  have c0 := h.cell1
  by_cases h3 : x = -1
  · subst h3
    show Calls Try.prog 34 #[_, .nilIface] w _
    by_cases h4 : S.homes.length = 0
    · exact objectOf_nil r _ 0 oc oa p.ob w c0 hn (fun e => by omega) (fun j hj => by omega)
    · obtain ⟨g, cap, e, _, hg⟩ := h.orow.form (by omega)
      have hl := h.orow
      rw [e] at hl c0
      refine objectOf_nil r _ g _ _ p.ob w c0 hn (fun _ => rfl) (fun j hj => ?_)
      rw [hl.cellAt j (by omega), List.getElem?_map, List.getElem?_range hj]
      rfl
  · obtain ⟨k, rfl⟩ : ∃ k : Nat, x = (k : Int) := ⟨x.toNat, by omega⟩
    have hk : k < S.homes.length := by omega
    have e1 : objA p.ob (k : Int) = .iface 77 (.pointer (some ⟨p.ob k, 0, none⟩)) := by simp [objA]
    rw [e1]
    obtain ⟨g, cap, e, _, hg⟩ := h.orow.form (by omega)
    have hl := h.orow
    rw [e] at hl c0
    refine objectOf_at r _ g _ p.ob w k c0 hn hk (fun j hj => ?_) (fun j hj => ?_)
    · rw [hl.cellAt j (by omega), List.getElem?_map, List.getElem?_range hj]
      rfl
    · by_cases e : j = k
      · subst e
        rw [decide_eq_true rfl]
        exact oeq_same w _
      · rw [decide_eq_false e]
        exact oeq_other w (fun e' => e (h.ob_inj hj hk e')) (h.obj j hj).1 (h.obj k hk).1
end Go.Proofs.Ytipmpeekfajlcaa
