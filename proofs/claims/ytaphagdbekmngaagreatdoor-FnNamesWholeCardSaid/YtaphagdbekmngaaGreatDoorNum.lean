/- What is reckoned of each whole number from 1 to 256 on its way to a histogram's bucket: reckoned by the kernel. -/
import Derived.Test.YtaphagdbekmngaaGreatDoorLog
namespace Go.Proofs.YtaphagdbekmngaaGreatDoor
open Go.RowKit

def inB (b : Nat) : Bool := (FloatKind.f64.format.order b 0 == some .lt) == false && ((FloatKind.f64.format.order b 4647257418609197056 == some .gt) || (FloatKind.f64.format.order b 4647257418609197056 == some .eq)) == false &&
  (match floatToIntVal .f64 b .u64 with | some i => decide (1 ≤ i ∧ i < 486) | none => false)
def numB (n : Nat) : Bool := fitB (floatOfInt .f64 n) && (match idxF n with | some (_, _, b) => inB b | none => false)

theorem num_all : (List.range 256).all (fun n => numB (n + 1)) = true := by kernel_rfl
end Go.Proofs.YtaphagdbekmngaaGreatDoor
