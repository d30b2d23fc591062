/- Contracts: isPowerOfTwo, TrailingZeros at 16 -/
import Derived.Test.YtjmoinaikedmlaaDoorE
namespace Go.Proofs.YtjmoinaikedmlaaDoor
open Go.ChangeShapes Go.WideShapes Go.ChangeAt Go.RowKit
set_option linter.unusedVariables false

theorem pow66 (w : World) : Calls Tryd.prog 66 #[.int .i64 16] w fun e w' => e = .returned (.bool true) ∧ w = w' := by
  go_enter Tryd.func66, Tryd.ntmps66
  go_wp2
  go_ret
  exact ⟨ret_bool (by decide), rfl⟩

theorem tz72 (w : World) (hc : w.cell? ⟨9, 15, none⟩ = some (.int .u8 4)) : Calls Tryd.prog 72 #[.int .u64 16] w fun e w' => e = .returned (.int .i64 4) ∧ w = w' := by
  have h1 : bits BinOp.and IntKind.u64 16 (IntKind.u64.wrap (-16)) = 16 := by decide
  go_enter Tryd.func72, Tryd.ntmps72
  go_wp2
  go_ret
  exact ⟨rfl, rfl⟩

end Go.Proofs.YtjmoinaikedmlaaDoor
