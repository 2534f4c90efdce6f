/- WALKS of the plan of two singles and their spread: inSpread, plan.at, rotation.at. -/
import Derived.Test.Qxb6609388aSpBits
import Derived.Test.Qxb6609388aSpPlain
namespace Go.Proofs.Qxb6609388a.Sp
open Go.RowKit SpPlain

/-- The fifteen cells of the plan: tA with n places, tB with m, the spread of the second into the first, L places. -/
def planCells (tA n tB m L : Int) : List Value :=
  [.int .u8 0, .int .u32 tA, .int .i32 0, .int .i32 0, .int .u64 n, .int .u8 0, .int .u32 tB, .int .i32 0, .int .i32 0, .int .u64 m, .int .u8 1, .int .u32 0, .int .i32 0, .int .i32 1, .int .u64 L]

/-- What the walk is told of the plan in memory. -/
structure IsPlan (w : World) (g : Nat) (tA n tB m L : Int) : Prop where
  k0 : w.cell? ⟨g, 0, none⟩ = some (.int .u8 0)
  t0 : w.cell? ⟨g, 1, none⟩ = some (.int .u32 tA)
  n0 : w.cell? ⟨g, 4, none⟩ = some (.int .u64 n)
  k1 : w.cell? ⟨g, 5, none⟩ = some (.int .u8 0)
  t1 : w.cell? ⟨g, 6, none⟩ = some (.int .u32 tB)
  n1 : w.cell? ⟨g, 9, none⟩ = some (.int .u64 m)
  k2 : w.cell? ⟨g, 10, none⟩ = some (.int .u8 1)
  f2 : w.cell? ⟨g, 12, none⟩ = some (.int .i32 0)
  s2 : w.cell? ⟨g, 13, none⟩ = some (.int .i32 1)
  n2 : w.cell? ⟨g, 14, none⟩ = some (.int .u64 L)

theorem IsPlan.drewN {w : World} {g : Nat} {tA n tB m L : Int} (h : IsPlan w g tA n tB m L) (k : Nat) : IsPlan (w.drewN k) g tA n tB m L :=
  ⟨h.k0, h.t0, h.n0, h.k1, h.t1, h.n1, h.k2, h.f2, h.s2, h.n2⟩

theorem prod_bd (q n : Int) (q0 : 0 ≤ q) (q1 : q + 1 ≤ 131072) (n0 : 1 ≤ n) (n1 : n ≤ 65536) : 1 ≤ (q + 1) * n ∧ (q + 1) * n ≤ 8589934592 := by
  have h1 : (q + 1) * n ≤ 131072 * n := Int.mul_le_mul_of_nonneg_right q1 (by omega)
  have h2 : (q + 1) * 1 ≤ (q + 1) * n := Int.mul_le_mul_of_nonneg_left n0 (by omega)
  omega

theorem quo_le (q n L : Int) (q0 : 0 ≤ q) (n0 : 1 ≤ n) (n1 : n ≤ L) : ((q + 1) * n - 1) / L ≤ q := by
  have h1 : (q + 1) * n ≤ (q + 1) * L := Int.mul_le_mul_of_nonneg_left n1 (by omega)
  have h2 : ((q + 1) * n - 1) / L < q + 1 := Int.ediv_lt_of_lt_mul (by omega) (by omega)
  omega

theorem ret_int {k : IntKind} {a b : Int} (h : a = b) : Ending.returned (.int k a) = .returned (.int k b) := by rw [h]

set_option maxHeartbeats 1000000 in
theorem inSpread_first (g cap : Nat) (tA n tB m L q : Int) (w : World) (h : IsPlan w g tA n tB m L) (n0 : 1 ≤ n) (n1 : n ≤ 65536) (L0 : n ≤ L) (L1 : L ≤ 131072) (q0 : 0 ≤ q) (q1 : q < L)
    (hF : L ≤ ((q + 1) * n - 1) % L + n) :
    Calls Try.prog 16 #[.slice (some ⟨g, 0, none⟩) 3 cap, .pointer (some ⟨g, 10, none⟩), .int .u64 q] w fun e w' => e = .returned (.tuple #[.int .i32 0, .int .u64 (((q + 1) * n - 1) / L)]) ∧ ∃ k, w' = w.drewN k := by
  obtain ⟨b1, b2⟩ := prod_bd q n q0 (by omega) n0 n1
  have r0 : 0 ≤ ((q + 1) * n - 1) % L := Int.emod_nonneg _ (by omega)
  have r1 : ((q + 1) * n - 1) % L < L := Int.emod_lt_of_pos _ (by omega)
  obtain ⟨-, -, c4, -, -, -, -, c12, c13, c14⟩ := h
  go_enter Try.func16, Try.ntmps16
  go_wp2_with (first | (go_at_call 18; refine (mul64_small _ _ _ (by omega) (by omega) (by omega) (by omega) (by omega) (by omega)).mono ?_; rintro e w' ⟨rfl, rfl⟩) | simp only [sub64_one ((q + 1) * n) (by omega) (by omega)] | (go_at_call 20; refine (div64_zero _ _ _ (by omega) (by omega) (by omega) (by omega)).mono ?_; rintro e w' ⟨rfl, k, rfl⟩))
  go_ret2
  exact ⟨rfl, _, rfl⟩

set_option maxHeartbeats 1000000 in
theorem inSpread_second (g cap : Nat) (tA n tB m L q : Int) (w : World) (h : IsPlan w g tA n tB m L) (n0 : 1 ≤ n) (n1 : n ≤ 65536) (L0 : n ≤ L) (L1 : L ≤ 131072) (q0 : 0 ≤ q) (q1 : q < L)
    (hF : ¬ L ≤ ((q + 1) * n - 1) % L + n) :
    Calls Try.prog 16 #[.slice (some ⟨g, 0, none⟩) 3 cap, .pointer (some ⟨g, 10, none⟩), .int .u64 q] w fun e w' => e = .returned (.tuple #[.int .i32 1, .int .u64 (q - ((q + 1) * n - 1) / L)]) ∧ ∃ k, w' = w.drewN k := by
  obtain ⟨b1, b2⟩ := prod_bd q n q0 (by omega) n0 n1
  have r0 : 0 ≤ ((q + 1) * n - 1) % L := Int.emod_nonneg _ (by omega)
  have r1 : ((q + 1) * n - 1) % L < L := Int.emod_lt_of_pos _ (by omega)
  have d0 : 0 ≤ ((q + 1) * n - 1) / L := Int.ediv_nonneg (by omega) (by omega)
  have d1 := quo_le q n L q0 n0 L0
  obtain ⟨-, -, c4, -, -, -, -, c12, c13, c14⟩ := h
  go_enter Try.func16, Try.ntmps16
  go_wp2_with (first | (go_at_call 18; refine (mul64_small _ _ _ (by omega) (by omega) (by omega) (by omega) (by omega) (by omega)).mono ?_; rintro e w' ⟨rfl, rfl⟩) | simp only [sub64_one ((q + 1) * n) (by omega) (by omega)] | (go_at_call 20; refine (div64_zero _ _ _ (by omega) (by omega) (by omega) (by omega)).mono ?_; rintro e w' ⟨rfl, k, rfl⟩))
  go_ret2
  exact ⟨rfl, _, rfl⟩

set_option maxHeartbeats 1000000 in
/-- 'plan.at': two rounds of its loop -/
theorem planAt_any (g cap : Nat) (tA n tB m L q : Int) (w : World) (h : IsPlan w g tA n tB m L) (n0 : 1 ≤ n) (n1 : n ≤ 65536) (L0 : n ≤ L) (L1 : L ≤ 131072) (q0 : 0 ≤ q) (q1 : q < L) :
    Calls Try.prog 15 #[.slice (some ⟨g, 0, none⟩) 3 cap, .int .u64 q] w fun e w' => e = .returned (.int .u32 (tg tA n tB L q)) ∧ ∃ k, w' = w.drewN k := by
  by_cases hF : L ≤ ((q + 1) * n - 1) % L + n
  · have et : Hid (tg tA n tB L q = tA) := by simp [Hid, tg, isF, hF]
    have HI : Hid (IsPlan w g tA n tB m L) := h
    obtain ⟨c0, c1, -, c5, c6, -, c10, -, -, -⟩ := h
    go_enter Try.func15, Try.ntmps15
    go_wp2
    refine wp_loop_rounds 2 ?_
    rw [rounds_succ]
    go_wp2_with (go_at_call 16; refine (inSpread_first g cap tA n tB m L q _ HI.out n0 n1 L0 L1 q0 q1 (by omega)).mono ?_; rintro e w' ⟨rfl, k, rfl⟩)
    rw [rounds_succ]
    go_wp2
    go_ret
    exact ⟨ret_int et.out.symm, _, rfl⟩
  · have et : Hid (tg tA n tB L q = tB) := by simp [Hid, tg, isF, hF]
    have HI : Hid (IsPlan w g tA n tB m L) := h
    obtain ⟨c0, c1, -, c5, c6, -, c10, -, -, -⟩ := h
    go_enter Try.func15, Try.ntmps15
    go_wp2
    refine wp_loop_rounds 2 ?_
    rw [rounds_succ]
    go_wp2_with (go_at_call 16; refine (inSpread_second g cap tA n tB m L q _ HI.out n0 n1 L0 L1 q0 q1 (by omega)).mono ?_; rintro e w' ⟨rfl, k, rfl⟩)
    rw [rounds_succ]
    go_wp2
    go_ret
    exact ⟨ret_int et.out.symm, _, rfl⟩

set_option maxHeartbeats 1000000 in
/-- '(*rotation).at' -/
theorem rotAt_any (b g cap : Nat) (tA n tB m L c : Int) (w : World) (h : IsPlan w g tA n tB m L) (r0 : w.cell? ⟨b, 0, none⟩ = some (.int .u64 L)) (r2 : w.cell? ⟨b, 2, none⟩ = some (.slice (some ⟨g, 0, none⟩) 3 cap))
    (n0 : 1 ≤ n) (n1 : n ≤ 65536) (L0 : n ≤ L) (L1 : L ≤ 131072) (c0 : 0 ≤ c) (c1 : c ≤ 18446744073709551615) :
    Calls Try.prog 14 #[.pointer (some ⟨b, 0, none⟩), .int .u64 c] w fun e w' => e = .returned (.int .u32 (tg tA n tB L (c % L))) ∧ ∃ k, w' = w.drewN k := by
  have q0 : 0 ≤ c % L := Int.emod_nonneg _ (by omega)
  have q1 : c % L < L := Int.emod_lt_of_pos _ (by omega)
  have hL : (L == 0) = false := beq_eq_false_iff_ne.2 (by omega)
  have HI : Hid (IsPlan w g tA n tB m L) := h
  clear h
  go_enter Try.func14, Try.ntmps14
  go_wp2
  go_quiet ((go_at_call 15; exact Calls.quiet_of (planAt_any g cap tA n tB m L (c % L) _ (HI.out.drewN _) n0 n1 L0 L1 q0 q1)))
  go_wp2
  go_ret
  exact ⟨rfl, _, rfl⟩

set_option maxHeartbeats 1000000 in
/-- 'ZZrotationAt' -/
theorem zzAt_any (b g cap : Nat) (tA n tB m L c : Int) (w : World) (h : IsPlan w g tA n tB m L) (r0 : w.cell? ⟨b, 0, none⟩ = some (.int .u64 L)) (r2 : w.cell? ⟨b, 2, none⟩ = some (.slice (some ⟨g, 0, none⟩) 3 cap))
    (n0 : 1 ≤ n) (n1 : n ≤ 65536) (L0 : n ≤ L) (L1 : L ≤ 131072) (c0 : 0 ≤ c) (c1 : c ≤ 18446744073709551615) :
    Calls Try.prog 10 #[.pointer (some ⟨b, 0, none⟩), .int .u64 c] w fun e w' => e = .returned (.int .u32 (tg tA n tB L (c % L))) ∧ ∃ k, w' = w.drewN k := by
  have HI : Hid (IsPlan w g tA n tB m L) := h
  clear h
  go_enter Try.func10, Try.ntmps10
  go_wp2_with (go_at_call 14; refine (rotAt_any b g cap tA n tB m L c _ HI.out r0 r2 n0 n1 L0 L1 c0 c1).mono ?_; rintro e w' ⟨rfl, k, rfl⟩)
  go_ret
  exact ⟨rfl, _, rfl⟩
end Go.Proofs.Qxb6609388a.Sp
