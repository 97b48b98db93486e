/- Walks of impl.Relative: at one path given twice the answer is the empty text, and at two different paths it is the second. -/
import Derived.Test.YtipmpeekfajlcaaNamesWalks
import Derived.LaidEqlPtr
import Derived.Below
import Derived.WalkSpells
import Derived.WideShapes
namespace Go.Proofs.Ytipmpeekfajlcaa
open Go.RowKit

/-- Two different texts have different bytes. -/
theorem toList_ne {a b : ByteArray} (h : ¬ a = b) : (a.toList == b.toList) = false := by
  rw [beq_eq_false_iff_ne, ByteArray.toList_eq, ByteArray.toList_eq]
  intro e
  exact h (WideShapes.bytes_inj e)
theorem letters_ne : ((⟨#[112]⟩ : ByteArray).toList == (⟨#[113]⟩ : ByteArray).toList) = false := by
  rw [ByteArray.toList_eq, ByteArray.toList_eq]
  decide

/-- What has grown twice has grown. -/
theorem grown_trans {a b c : World} (h : Grown a b) (k : Grown b c) : Grown a c :=
  ⟨World.keptBut_trans h.1 k.1, fun x => (k.2.1 x).trans (h.2.1 x), Nat.le_trans h.2.2 k.2.2⟩

/-- Block n is a plain row of cells, without a mark. -/
def IsCells (w : World) (n : Nat) : Prop := ∃ c t, w.heap[n]? = some (.cells c t (0, 0))
theorem isCells_at (w : World) (c : Array Value) (t : TypeId) (n : Nat) (h : n = w.heap.size) : IsCells (w.alloc (.cells c t)) n := by
  subst h
  exact ⟨c, t, by simp only [World.alloc]; exact Array.getElem?_push_size⟩
theorem isCells_past {w : World} {n : Nat} (o : Obj) (h : IsCells w n) : IsCells (w.alloc o) n := by
  obtain ⟨c, t, e⟩ := h
  obtain ⟨hn, _⟩ := Array.getElem?_eq_some_iff.mp e
  refine ⟨c, t, ?_⟩
  simp only [World.alloc]
  rw [Array.getElem?_push_lt hn, ← Array.getElem?_eq_getElem hn]
  exact e

theorem pkgSize : (Try.prog.info? 66).map (fun i => i.size) = some 8 := by kernel_rfl
theorem pkgInfo : ∃ j, Try.prog.info? 66 = some j ∧ j.size ≠ 0 := by
  have h := pkgSize
  cases e : Try.prog.info? 66 with
  | none => rw [e] at h; simp at h
  | some j => rw [e] at h; refine ⟨j, rfl, ?_⟩; simp at h; omega

set_option maxHeartbeats 1000000 in
theorem qualifier_same (a c : Addr) (w : World) (h : w.cell? c = some (.pointer (some a))) : Calls Try.prog 24 #[.pointer (some a), .pointer (some c)] w fun e w' => e = .returned (.string ByteArray.empty) ∧ w = w' := by
  obtain ⟨j, hj, hs⟩ := pkgInfo
  have he := run_eql_ptr_same (P := Try.prog) w a Try.underlying34 hj
  clear hj hs
  go_enter Try.func24, Try.ntmps24
  go_wp2
  go_ret
  exact ⟨rfl, rfl⟩

set_option maxHeartbeats 1000000 in
theorem qualifier_other (a b : Nat) (c : Addr) (q : ByteArray) (w : World) (hne : a ≠ b) (h : w.cell? c = some (.pointer (some ⟨a, 0, none⟩)))
    (ha : IsCells w a) (hb : IsCells w b) (hq : w.cell? ⟨b, 0, none⟩ = some (.string q)) :
    Calls Try.prog 24 #[.pointer (some ⟨b, 0, none⟩), .pointer (some c)] w fun e w' => e = .returned (.string q) ∧ w = w' := by
  obtain ⟨j, hj, hs⟩ := pkgInfo
  obtain ⟨ca, ta, ha⟩ := ha
  obtain ⟨cb, tb, hb⟩ := hb
  have he := run_eql_ptr_other (P := Try.prog) w (a := ⟨a, 0, none⟩) (b := ⟨b, 0, none⟩) Try.underlying34 hj hs (fun e => hne (congrArg Addr.block e)) ha hb
  clear hj hs ha hb
  go_enter Try.func24, Try.ntmps24
  go_wp2
  go_ret
  exact ⟨rfl, rfl⟩

set_option maxHeartbeats 1000000 in
theorem newPackage_any (p n : ByteArray) (w : World) : Calls Try.prog 14 #[.string p, .string n] w fun e w' => e = .returned (.pointer (some ⟨w.heap.size + 1, 0, none⟩)) ∧
    (w.alloc (.cells #[.pointer none, .slice none 0 0, .int .i64 0, .map none, .int .i64 0, .int .i64 0, .string ⟨#[112, 97, 99, 107, 97, 103, 101]⟩, .bool false, .bool false] 69)).alloc
      (.cells #[.string p, .string n, .pointer (some ⟨w.heap.size, 0, none⟩), .slice none 0 0, .bool false, .bool false, .bool false, .string ⟨#[]⟩] 66) = w' := by
  go_enter Try.func14, Try.ntmps14
  go_wp2
  go_ret
  exact ⟨rfl, rfl⟩

set_option maxHeartbeats 1000000 in
theorem relativeTo_any (a : Addr) (w : World) : Calls Try.prog 19 #[.pointer (some a)] w fun e w' => e = .returned (.func (.func 24) #[] #[.pointer (some ⟨w.heap.size, 0, none⟩)]) ∧
    w.alloc (.cells #[.pointer (some a)] 34) = w' := by
  go_enter Try.func19, Try.ntmps19
  go_wp2
  go_ret
  exact ⟨rfl, rfl⟩

set_option maxHeartbeats 1000000 in
theorem relative_same (p : ByteArray) (w : World) : Calls Try.prog 9 #[.string p, .string p] w fun e w' => e = .returned (.string ByteArray.empty) ∧ Grown w w' := by
  go_enter Try.func9, Try.ntmps9
  go_wp2_with (first | (go_at_call 24; refine (qualifier_same _ _ _ ?_).mono ?_; go_simp; rintro e w' ⟨rfl, rfl⟩) | (go_at_call 14; refine (newPackage_any _ _ _).mono ?_; rintro e w' ⟨rfl, rfl⟩) | (go_at_call 19; refine (relativeTo_any _ _).mono ?_; rintro e w' ⟨rfl, rfl⟩))
  go_ret
  exact ⟨rfl, by repeat (first | exact Grown.refl _ | apply Grown.drew | apply Grown.alloc)⟩

set_option maxHeartbeats 1000000 in
theorem relative_other (p q : ByteArray) (h : (p.toList == q.toList) = false) (w : World) : Calls Try.prog 9 #[.string p, .string q] w fun e w' => e = .returned (.string q) ∧ Grown w w' := by
  go_enter Try.func9, Try.ntmps9
  go_wp2_with (first | (go_at_call 14; refine (newPackage_any _ _ _).mono ?_; rintro e w' ⟨rfl, rfl⟩) | (go_at_call 19; refine (relativeTo_any _ _).mono ?_; rintro e w' ⟨rfl, rfl⟩))
  refine (qualifier_other (w.heap.size + 1) _ _ q _ ?h1 ?h2 ?h3 ?h4 ?h5).mono ?_
  case h1 => omega
  case h2 => go_simp
  case h3 => exact isCells_past _ (isCells_past _ (isCells_past _ (isCells_at _ _ _ _ (by simp))))
  case h4 => exact isCells_at _ _ _ _ (by simp)
  case h5 => go_simp
  rintro e w' ⟨rfl, rfl⟩
  go_wp2
  go_ret
  exact ⟨rfl, by repeat (first | exact Grown.refl _ | apply Grown.drew | apply Grown.alloc)⟩
end Go.Proofs.Ytipmpeekfajlcaa
