/-
  internal/strconv.formatBits at the bases 8 and 16, walked: the numeral; one new block.
-/
import Derived.Test.Qxb6603072aDoorLex
import Derived.Lib.ItoaMem
namespace Go.Proofs.Qxb6603072aDoor
open Go.RowKit Plain

theorem pow2_8 (w : World) : Calls Tryd.prog 26 #[.int .i64 8] w fun e w' => e = .returned (.bool true) ∧ w' = w := by
  go_enter Tryd.func26, Tryd.ntmps26
  go_wp2
  go_ret
  exact ⟨rfl, rfl⟩
theorem pow2_16 (w : World) : Calls Tryd.prog 26 #[.int .i64 16] w fun e w' => e = .returned (.bool true) ∧ w' = w := by
  go_enter Tryd.func26, Tryd.ntmps26
  go_wp2
  go_ret
  exact ⟨rfl, rfl⟩

theorem tz_8 (w : World) (h : w.cell? ⟨2, 7, none⟩ = some (.int .u8 3)) : Calls Tryd.prog 27 #[.int .u64 8] w fun e w' => e = .returned (.int .i64 3) ∧ w' = w := by
  have hb : bits BinOp.and IntKind.u64 8 (IntKind.u64.wrap (-8)) = 8 := by decide +kernel
  have hm : IntKind.u64.wrap (8 * 285870213051353865) = 2286961704410830920 := by decide +kernel
  go_enter Tryd.func27, Tryd.ntmps27
  go_wp2
  go_ret
  exact ⟨rfl, rfl⟩
theorem tz_16 (w : World) (h : w.cell? ⟨2, 15, none⟩ = some (.int .u8 4)) : Calls Tryd.prog 27 #[.int .u64 16] w fun e w' => e = .returned (.int .i64 4) ∧ w' = w := by
  have hb : bits BinOp.and IntKind.u64 16 (IntKind.u64.wrap (-16)) = 16 := by decide +kernel
  have hm : IntKind.u64.wrap (16 * 285870213051353865) = 4573923408821661840 := by decide +kernel
  go_enter Tryd.func27, Tryd.ntmps27
  go_wp2
  go_ret
  exact ⟨rfl, rfl⟩
end Go.Proofs.Qxb6603072aDoor
