/- PLAIN FACTS on the spread of two targets: integers alone, no Go in sight. -/
namespace Go.Proofs.Qxb6609388a.SpPlain

/-- Is place q (of L = n + m) the first target's? -/
def isF (n L q : Int) : Bool := decide (L ≤ ((q + 1) * n - 1) % L + n)
/-- The target at place q. -/
def tg (tA n tB L q : Int) : Int := if isF n L q = true then tA else tB
/-- How many places of the first lie before place q. -/
def cnt (n L q : Int) : Int := ((q + 1) * n - 1) / L

theorem pos_lt (n m q j : Int) (n0 : 1 ≤ n) (m0 : 1 ≤ m) : j + (j + 1) * m / n < q ↔ j + 1 ≤ cnt n (n + m) q := by
  unfold cnt
  rw [Int.le_ediv_iff_mul_le (by omega)]
  have h1 : j + (j + 1) * m / n < q ↔ (j + 1) * m / n < q - j := by omega
  rw [h1, Int.ediv_lt_iff_lt_mul (by omega), Int.mul_add]
  have e1 : (q - j) * n = q * n - j * n := Int.sub_mul _ _ _
  have e2 : (j + 1) * n = j * n + n := by rw [Int.add_mul]; omega
  have e3 : (q + 1) * n = q * n + n := by rw [Int.add_mul]; omega
  rw [e1, e2, e3]
  omega

theorem cnt_next (n L q : Int) (L0 : 0 < L) (n0 : 1 ≤ n) (n1 : n ≤ L) : cnt n L (q + 1) = cnt n L q + (if isF n L q = true then 1 else 0) ∧ ((q + 1 + 1) * n - 1) % L = ((q + 1) * n - 1) % L + n - (if isF n L q = true then L else 0) := by
  have e : (q + 1 + 1) * n - 1 = ((q + 1) * n - 1) + n := by rw [Int.add_mul (q + 1) 1 n]; omega
  have hx := Int.mul_ediv_add_emod ((q + 1) * n - 1) L
  have r0 : 0 ≤ ((q + 1) * n - 1) % L := Int.emod_nonneg _ (by omega)
  have r1 : ((q + 1) * n - 1) % L < L := Int.emod_lt_of_pos _ L0
  unfold cnt isF
  rw [e]
  generalize (q + 1) * n - 1 = X at *
  by_cases h : L ≤ X % L + n
  · simp only [h, decide_true, if_true]
    have e2 : X + n = (X % L + n - L) + L * (X / L + 1) := by rw [Int.mul_add]; omega
    constructor
    · rw [e2, Int.add_mul_ediv_left _ _ (by omega), Int.ediv_eq_zero_of_lt (by omega) (by omega)]; omega
    · rw [e2, Int.add_mul_emod_self_left, Int.emod_eq_of_lt (by omega) (by omega)]
  · simp only [h, decide_false, Bool.false_eq_true, if_false]
    have e2 : X + n = (X % L + n) + L * (X / L) := by omega
    constructor
    · rw [e2, Int.add_mul_ediv_left _ _ (by omega), Int.ediv_eq_zero_of_lt (by omega) (by omega)]; omega
    · rw [e2, Int.add_mul_emod_self_left, Int.emod_eq_of_lt (by omega) (by omega)]; omega

/-- one round of the search: item j stands at q, behind q, or before q -/
theorem at_hit (n m q j : Int) (n0 : 1 ≤ n) (m0 : 1 ≤ m) (_h : j ≤ cnt n (n + m) q) (hp : j + (j + 1) * m / n = q) : isF n (n + m) q = true := by
  have a1 := pos_lt n m q j n0 m0
  have a2 := pos_lt n m (q + 1) j n0 m0
  have a3 := (cnt_next n (n + m) q (by omega) n0 (by omega)).1
  by_cases hf : isF n (n + m) q = true
  · exact hf
  · rw [if_neg hf] at a3; omega
theorem at_past (n m q j : Int) (n0 : 1 ≤ n) (m0 : 1 ≤ m) (h : j ≤ cnt n (n + m) q) (hp : q < j + (j + 1) * m / n) : isF n (n + m) q = false := by
  have a2 := pos_lt n m (q + 1) j n0 m0
  have a3 := (cnt_next n (n + m) q (by omega) n0 (by omega)).1
  by_cases hf : isF n (n + m) q = true
  · rw [if_pos hf] at a3; omega
  · simpa using hf
theorem at_before (n m q j : Int) (n0 : 1 ≤ n) (m0 : 1 ≤ m) (hp : j + (j + 1) * m / n < q) : j + 1 ≤ cnt n (n + m) q := (pos_lt n m q j n0 m0).1 hp
theorem cnt_lt (n L q : Int) (L0 : 0 < L) (n0 : 1 ≤ n) (q1 : q < L) : cnt n L q < n := by
  unfold cnt
  refine Int.ediv_lt_of_lt_mul L0 ?_
  have h : (q + 1) * n ≤ L * n := Int.mul_le_mul_of_nonneg_right (by omega) (by omega)
  rw [Int.mul_comm n L]
  omega
theorem cnt_nonneg (n L q : Int) (L0 : 0 < L) (n0 : 1 ≤ n) (q0 : 0 ≤ q) : 0 ≤ cnt n L q := by
  unfold cnt
  refine Int.ediv_nonneg ?_ (by omega)
  have h : 1 * n ≤ (q + 1) * n := Int.mul_le_mul_of_nonneg_right (by omega) (by omega)
  omega

/-- the turn comes round -/
theorem isF_mod (n L c : Int) : isF n L (c % L) = isF n L c := by
  unfold isF
  have e : (c + 1) * n - 1 = ((c % L + 1) * n - 1) + L * (c / L * n) := by
    have hc := Int.mul_ediv_add_emod c L
    have e1 : (c + 1) * n = (L * (c / L) + (c % L + 1)) * n := by
      have : c + 1 = L * (c / L) + (c % L + 1) := by omega
      rw [← this]
    rw [e1, Int.add_mul, Int.mul_assoc]
    omega
  rw [e, Int.add_mul_emod_self_left]
theorem cnt_window (n L c : Int) (L0 : 0 < L) : cnt n L (c + L) = cnt n L c + n := by
  unfold cnt
  have e : (c + L + 1) * n - 1 = ((c + 1) * n - 1) + L * n := by
    have e1 : c + L + 1 = (c + 1) + L := by omega
    rw [e1, Int.add_mul]; omega
  rw [e, Int.add_mul_ediv_left _ _ (by omega)]

/-- the lighter target never stands twice side by side -/
theorem never_two (n m c : Int) (n0 : 1 ≤ n) (m0 : 1 ≤ m) : ((isF n (n + m) (c + 1) != decide (m ≤ n)) && (isF n (n + m) c != decide (m ≤ n))) = false := by
  have a := (cnt_next n (n + m) c (by omega) n0 (by omega)).2
  have r0 : 0 ≤ ((c + 1) * n - 1) % (n + m) := Int.emod_nonneg _ (by omega)
  have r1 : ((c + 1) * n - 1) % (n + m) < n + m := Int.emod_lt_of_pos _ (by omega)
  by_cases hf : isF n (n + m) c = true
  · rw [if_pos hf] at a
    by_cases hm : m ≤ n
    · simp [hf, hm]
    · have h2 : isF n (n + m) (c + 1) = false := by
        unfold isF
        rw [a]
        exact decide_eq_false (by omega)
      simp [h2, hm]
  · have hf' : isF n (n + m) c = false := by simpa using hf
    rw [if_neg hf] at a
    by_cases hm : m ≤ n
    · have h2 : isF n (n + m) (c + 1) = true := by
        unfold isF
        rw [a]
        exact decide_eq_true (by omega)
      simp [h2, hm]
    · simp [hf', hm]
end Go.Proofs.Qxb6609388a.SpPlain
