/- The walks of the program's Typ and NewVar: they only make memory. -/
import Derived.Test.YtipmpeekfajlcaaScoped
namespace Go.Proofs.Ytipmpeekfajlcaa
open Go.RowKit

/-- The cells of a new variable. -/
def varCells (nm : ByteArray) (a : Addr) : Array Value :=
  #[.pointer none, .int .i64 0, .pointer none, .string nm, .iface 79 (.pointer (some a)), .int .u32 0, .int .i64 0, .pointer none, .int .u8 1, .bool false]

set_option maxHeartbeats 4000000 in
set_option maxRecDepth 100000 in
theorem newVar_at (nm : ByteArray) (a : Addr) (w : World) :
    Calls Try.prog 42 #[.int .u8 1, .int .i64 0, .pointer none, .string nm, .iface 79 (.pointer (some a))] w fun e w' => e = .returned (.pointer (some ⟨w.heap.size, 0, none⟩)) ∧ w' = w.alloc (.cells (varCells nm a) 105 (0, 0)) := by
  go_enter Try.func42, Try.ntmps42
  go_wp2
  go_ret
  exact ⟨rfl, rfl⟩

set_option maxHeartbeats 4000000 in
set_option maxRecDepth 100000 in
theorem newVar_any (nm : ByteArray) (a : Addr) (w : World) :
    Calls Try.prog 32 #[.int .i64 0, .pointer none, .string nm, .iface 79 (.pointer (some a))] w fun e w' => e = .returned (.pointer (some ⟨w.heap.size, 0, none⟩)) ∧ w' = w.alloc (.cells (varCells nm a) 105 (0, 0)) := by
  go_enter Try.func32, Try.ntmps32
  go_wp2_with (go_at_call 42; refine (newVar_at nm a _).mono ?_; rintro e w1 ⟨rfl, rfl⟩)
  go_ret
  exact ⟨rfl, rfl⟩

set_option maxHeartbeats 4000000 in
set_option maxRecDepth 100000 in
theorem typ_at (w : World) : Calls Try.prog 33 #[.int .i64 2] w fun e w' => ∃ a, e = .returned (.pointer (some a)) ∧ Chg (fun _ => False) w w' := by
  go_enter Try.func33, Try.ntmps33
  go_wp2
  go_ret
  refine ⟨_, rfl, ?_⟩
  repeat apply Chg.alloc
  exact Chg.refl _ _
end Go.Proofs.Ytipmpeekfajlcaa
