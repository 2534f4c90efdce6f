/- THE WALK of 'b1SpreadFirst'. -/
import Derived.Test.Qxb6609388aRows
import Derived.WalkKit
import Derived.ProofKit
import Derived.Below
import Derived.Outline
import Derived.Test.Qxb6609388aSpPlain
namespace Go.Proofs.Qxb6609388a.Sp
open Go.RowKit SpPlain

theorem ret_boolF {a b : Bool} (h : a = b) : Ending.returned (.bool a) = .returned (.bool b) := by rw [h]
theorem item_bd (k n m : Int) (k0 : 0 ≤ k) (k1 : k < n) (n0 : 1 ≤ n) (n1 : n ≤ 65536) (m0 : 1 ≤ m) (m1 : m ≤ 65536) :
    0 ≤ (k + 1) * m ∧ (k + 1) * m ≤ 4294967296 ∧ 0 ≤ (k + 1) * m / n ∧ (k + 1) * m / n ≤ 4294967296 := by
  have h1 : (k + 1) * m ≤ 65536 * m := Int.mul_le_mul_of_nonneg_right (by omega) (by omega)
  have h0 : 0 ≤ (k + 1) * m := Int.mul_nonneg (by omega) (by omega)
  have h2 : (k + 1) * m / n ≤ (k + 1) * m := Int.ediv_le_self _ h0
  have h3 : 0 ≤ (k + 1) * m / n := Int.ediv_nonneg h0 (by omega)
  omega

set_option maxHeartbeats 1000000 in
theorem first_any (n m q : Int) (w : World) (n0 : 1 ≤ n) (n1 : n ≤ 65536) (m0 : 1 ≤ m) (m1 : m ≤ 65536) (q0 : 0 ≤ q) (q1 : q < n + m) :
    Calls Try.prog 11 #[.int .u64 n, .int .u64 m, .int .u64 q] w fun e w' => e = .returned (.bool (isF n (n + m) q)) ∧ w' = w := by
  have hn : (n == 0) = false := beq_eq_false_iff_ne.2 (by omega)
  have hc := cnt_nonneg n (n + m) q (by omega) n0 q0
  have hd := cnt_lt n (n + m) q (by omega) n0 q1
  go_enter Try.func11, Try.ntmps11
  go_wp2
  go_loop [7] (fun i => ∃ k : Int, 0 ≤ k ∧ k ≤ cnt n (n + m) q ∧ i = .int .u64 k) (fun i => (n - intOf i).toNat)
  case atStart => exact ⟨0, by omega, hc, rfl⟩
  case round =>
    obtain ⟨k, k0, k1, rfl⟩ := hrel
    have hkn : k < n := by omega
    obtain ⟨b0, b1, b2, b3⟩ := item_bd k n m k0 hkn n0 n1 m0 m1
    by_cases h1 : k + (k + 1) * m / n = q
    · have hh : Hid (isF n (n + m) q = true) := at_hit n m q k n0 m0 k1 h1
      have h1' : (k + (k + 1) * m / n == q) = true := beq_iff_eq.2 h1
      clear h1
      go_wp2
      go_ret
      exact ⟨ret_boolF hh.out.symm, rfl⟩
    · have h1' : (k + (k + 1) * m / n == q) = false := beq_eq_false_iff_ne.2 h1
      by_cases h2 : q < k + (k + 1) * m / n
      · have hh : Hid (isF n (n + m) q = false) := at_past n m q k n0 m0 k1 h2
        clear h1
        go_wp2
        go_ret
        exact ⟨ret_boolF hh.out.symm, rfl⟩
      · have hh := at_before n m q k n0 m0 (by omega)
        clear h1
        go_wp2
        go_round
        case rel => exact ⟨k + 1, by omega, by omega, by go_num⟩
        case measure => simp [intOf]; omega
end Go.Proofs.Qxb6609388a.Sp
