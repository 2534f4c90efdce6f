/- WALKS of math/bits on the road: Mul64 (small factors), Sub64 (minus one), Div64 (one word). -/
import Derived.Test.Qxb6609388aRows
import Derived.WalkKit
import Derived.ProofKit
import Derived.Below
import Derived.RegionTactic
import Derived.Deep.QuietTactic
import Derived.BigQuiet
import Derived.Outline
import Derived.Shelf.Spec.BitsCarry
import Derived.Laws.Shifts
import Derived.Laws.MathBits
namespace Go.Proofs.Qxb6609388a.Sp
open Go.RowKit

set_option maxHeartbeats 400000 in
/-- 'bits.Mul64' where the product is below 2^34: the high word is 0 -/
theorem mul64_small (x y : Int) (w : World) (x0 : 0 ≤ x) (x1 : x ≤ 131072) (y0 : 0 ≤ y) (y1 : y ≤ 65536) (p0 : 0 ≤ x * y) (p1 : x * y ≤ 8589934592) :
    Calls Try.prog 18 #[.int .u64 x, .int .u64 y] w fun e w' => e = .returned (.tuple #[.int .u64 0, .int .u64 (x * y)]) ∧ w' = w := by
  have hx : bits .and .u64 x 4294967295 = x := by rw [and_low32 x x0 (by omega)]; omega
  have hy : bits .and .u64 y 4294967295 = y := by rw [and_low32 y y0 (by omega)]; omega
  have hx2 : x / 4294967296 = 0 := by omega
  have hy2 : y / 4294967296 = 0 := by omega
  have hz : bits .and .u64 (x * y / 4294967296) 4294967295 = x * y / 4294967296 := by rw [and_low32 _ (by omega) (by omega)]; omega
  have hz2 : x * y / 4294967296 / 4294967296 = 0 := by omega
  go_enter Try.func18, Try.ntmps18
  go_wp2
  go_ret2
  exact ⟨rfl, rfl⟩

theorem sub64_one (x : Int) (x0 : 1 ≤ x) (x1 : x < 18446744073709551616) (w : World) :
    (callFunc 19 #[.int .u64 x, .int .u64 1, .int .u64 0]).run Try.prog w = .ok (.value (.tuple #[.int .u64 (x - 1), .int .u64 0])) w := by
  obtain ⟨n, rfl⟩ := Int.eq_ofNat_of_zero_le (by omega : 0 ≤ x)
  have h := run_sub64 (P := Try.prog) n 1 0 (by omega) w
  rw [run_callFunc_extern Try.func19 (by kernel_rfl) (by kernel_rfl) (by kernel_rfl) (e := sub64Entry) (by kernel_rfl)]
  refine (congrArg (fun r => Result.andThen r fun v w' => Result.ok (Next.value v) w') h).trans ?_
  have e1 : (((n + 18446744073709551616 - 1 - 0) % 18446744073709551616 : Nat) : Int) = (n : Int) - 1 := by omega
  have e2 : ((if n < 1 + 0 then 1 else 0 : Nat) : Int) = 0 := by rw [if_neg (by omega)]; rfl
  rw [e1, e2]
  rfl

set_option maxHeartbeats 400000 in
/-- 'bits.Div64' with the high word 0 -/
theorem div64_zero (x y : Int) (w : World) (x0 : 0 ≤ x) (x1 : x ≤ 8589934592) (y0 : 0 < y) (y1 : y ≤ 131072) :
    Calls Try.prog 20 #[.int .u64 0, .int .u64 x, .int .u64 y] w fun e w' => e = .returned (.tuple #[.int .u64 (x / y), .int .u64 (x % y)]) ∧ ∃ n, w' = w.drewN n := by
  have hy : (y == 0) = false := beq_eq_false_iff_ne.2 (by omega)
  have hy2 : ¬ y ≤ 0 := by omega
  go_enter Try.func20, Try.ntmps20
  go_wp2
  go_quiet (fail)
  go_wp2
  go_ret2
  exact ⟨rfl, _, rfl⟩
end Go.Proofs.Qxb6609388a.Sp
