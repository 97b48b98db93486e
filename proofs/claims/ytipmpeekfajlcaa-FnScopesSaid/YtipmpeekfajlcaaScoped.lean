/- The walks of the program's methods of a scope that only read: Len, NumChildren, Child, Parent, Lookup. -/
import Derived.Test.YtipmpeekfajlcaaNumbers
namespace Go.Proofs.Ytipmpeekfajlcaa
open Go.RowKit

theorem zero84 (w : World) : (zeroValue 84).run Try.prog w = .ok .nilIface w := by kernel_rfl
theorem und67 : Try.prog.underlying 67 = some (.map 9 84) := by kernel_rfl
theorem und9 : Try.prog.underlying 9 = some .string := by kernel_rfl

theorem objR_lit {v : Value} {b : Int} {ps : List MemPlace} (h : objR v = some (.lit (.int .i64 b), ps)) : ∃ k : Nat, (k : Int) = b ∧ v = .iface 77 (.pointer (some ⟨k, 0, none⟩)) := by
  unfold objR at h
  split at h
  · split at h
    · rename_i e
      subst e
      simp at h
      exact ⟨_, h.1, rfl⟩
    · cases h
  · simp at h
  · cases h
theorem objR_nil {v : Value} {ps : List MemPlace} (h : objR v = some (.nil, ps)) : v = .nilIface := by
  unfold objR at h
  split at h
  · split at h
    · simp at h
    · cases h
  · rfl
  · cases h

theorem map_lookup {w : World} {m : Option Nat} {ns : List ByteArray} {os : List Int} {ob : Nat → Nat} (h : MapRep w m ns os ob) (h0 : ∀ x ∈ ns, 0 ≤ findI ns os x) {x : ByteArray} (hx : x.size ≤ maxLen) :
    (Instr.lookup 67 (.map m) (.string x) false).run Try.prog w = .ok (objA ob (findI ns os x)) w := by
  have hkey := WideMaps.keyOf_string_mk (P := Try.prog) und9 hx
  rcases h with ⟨rfl, rfl⟩ | ⟨b, D, rfl, hm, _, hs⟩
  · rw [Maps.look_nil false (Maps.string_keyed und9) und67 (zero84 w) hkey, findI_not x [] os (by simp)]
    rfl
  · obtain ⟨v, ps, hrun, hv⟩ := hm.lookup (Maps.string_keyed und9) und67 (zero84 w) (zd := .nil) (zp := []) rfl hkey
    rw [hrun]
    by_cases hin : x ∈ ns
    · have e := ((hs x).1 hin).2
      unfold keyL at e
      rw [e] at hv
      obtain ⟨k, hk, rfl⟩ := objR_lit hv
      have h1 := h0 x hin
      unfold objA
      rw [if_pos h1]
      have : k = ob (findI ns os x).toNat := by omega
      rw [this]
    · have e := ((hs x).2 hin).2
      unfold keyL at e
      rw [e] at hv
      rw [objR_nil hv, findI_not x ns os hin]
      rfl

theorem map_len {w : World} {m : Option Nat} {ns : List ByteArray} {os : List Int} {ob : Nat → Nat} (h : MapRep w m ns os ob) (ty : TypeId) : (Builtin.len_ #[67] ty #[.map m]).run Try.prog w = .ok (.int .i64 ns.length) w := by
  rcases h with ⟨rfl, rfl⟩ | ⟨b, D, rfl, hm, hsz, _⟩
  · exact Maps.len_nil und67 ty
  · rw [hm.len und67 ty, hsz]

set_option maxHeartbeats 1000000 in
theorem len_at (b : Nat) (m : Option Nat) (n : Nat) (w : World) (h0 : w.cell? ⟨b, 3, none⟩ = some (.map m)) (hl : ∀ ty, (Builtin.len_ #[67] ty #[.map m]).run Try.prog w = .ok (.int .i64 n) w) :
    Calls Try.prog 18 #[.pointer (some ⟨b, 0, none⟩)] w fun e w' => e = .returned (.int .i64 n) ∧ w = w' := by
  have h1 := hl 3
  go_enter Try.func18, Try.ntmps18
  go_wp2
  go_ret
  exact ⟨rfl, rfl⟩

set_option maxHeartbeats 1000000 in
theorem numChildren_at (b : Nat) (a : Option Addr) (n c : Nat) (w : World) (h0 : w.cell? ⟨b, 1, none⟩ = some (.slice a n c)) :
    Calls Try.prog 38 #[.pointer (some ⟨b, 0, none⟩)] w fun e w' => e = .returned (.int .i64 n) ∧ w = w' := by
  go_enter Try.func38, Try.ntmps38
  go_wp2
  go_ret
  exact ⟨rfl, rfl⟩

set_option maxHeartbeats 1000000 in
theorem child_at (b g n c i x : Nat) (w : World) (h0 : w.cell? ⟨b, 1, none⟩ = some (.slice (some ⟨g, 0, none⟩) n c)) (hi : i < n) (h1 : w.cell? ⟨g, i, none⟩ = some (.pointer (some ⟨x, 0, none⟩))) :
    Calls Try.prog 40 #[.pointer (some ⟨b, 0, none⟩), .int .i64 i] w fun e w' => e = .returned (.pointer (some ⟨x, 0, none⟩)) ∧ w = w' := by
  have d3 : (i : Int) < (n : Int) := by omega
  have d4 : (0 : Int) ≤ (i : Int) := by omega
  go_enter Try.func40, Try.ntmps40
  go_wp2
  go_ret
  exact ⟨rfl, rfl⟩

set_option maxHeartbeats 1000000 in
theorem parent_at (b : Nat) (a : Option Addr) (w : World) (h0 : w.cell? ⟨b, 0, none⟩ = some (.pointer a)) :
    Calls Try.prog 41 #[.pointer (some ⟨b, 0, none⟩)] w fun e w' => e = .returned (.pointer a) ∧ w = w' := by
  go_enter Try.func41, Try.ntmps41
  go_wp2
  go_ret
  exact ⟨rfl, rfl⟩

set_option maxHeartbeats 1000000 in
theorem lookup_at (b : Nat) (m : Option Nat) (x : ByteArray) (v : Value) (w : World) (h0 : w.cell? ⟨b, 3, none⟩ = some (.map m)) (hl : (Instr.lookup 67 (.map m) (.string x) false).run Try.prog w = .ok v w) :
    Calls Try.prog 36 #[.pointer (some ⟨b, 0, none⟩), .string x] w fun e w' => e = .returned v ∧ w = w' := by
  go_enter Try.func36, Try.ntmps36
  go_wp2
  go_ret
  exact ⟨rfl, rfl⟩
end Go.Proofs.Ytipmpeekfajlcaa
