/- Walks of impl.PackageTold: at every two strings it gives back both and the number zero, and makes at most new memory. -/
import Derived.Test.YtipmpeekfajlcaaNamesWalks
import Derived.RegionTactic
import Derived.ChangeAlike
import Derived.Deep.QuietTactic
import Derived.BigQuiet
import Derived.Below
namespace Go.Proofs.Ytipmpeekfajlcaa
open Go.RowKit

set_option maxHeartbeats 1000000 in
theorem told_any (p n : ByteArray) (w : World) : Calls Try.prog 8 #[.string p, .string n] w fun e w' => e = .returned (.tuple #[.string p, .string n, .int .i64 0]) ∧ Grown w w' := by
  go_enter Try.func8, Try.ntmps8
  go_wp2
  go_ret3
  exact ⟨rfl, by repeat (first | exact Grown.refl _ | apply Grown.drew | apply Grown.alloc)⟩
end Go.Proofs.Ytipmpeekfajlcaa
