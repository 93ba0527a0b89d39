import Derived.Test.Qxb6606046aV8
import Derived.Test.Qxb6606046aV9
set_option linter.unusedVariables false
namespace Go.Proofs.Qxb6606046a

theorem sort_all_i (n : Nat) : SortSpec 23 .i32 n := by
  induction n using Nat.strongRecOn with
  | ind n IH => exact sort_i n IH
theorem sort_all_b (n : Nat) : SortSpec 16 .u8 n := sort_b n (fun m _ => sort_all_i m)
end Go.Proofs.Qxb6606046a
