/- PLAIN FACTS for 'FnRotationTabledWhenEveryShareIsShort': lists of integers alone, no Go in sight. -/
namespace Go.Proofs.Qxb6609388a.TabPlain

/-- the places of a turn -/
def pl (l : List Int) : Int := l.foldl (· + ·) 0
/-- the shares: how many targets hold any place -/
def sh (l : List Int) : Int := ((l.filter (fun x => x != 0)).length : Int)
/-- no target holds more than 128 -/
def sm (l : List Int) : Bool := l.all (fun x => decide (x ≤ 128))
/-- every target that holds any holds more than 128 -/
def lg (l : List Int) : Bool := l.all (fun x => x == 0 || decide (128 < x))

theorem pl_snoc (l : List Int) (x : Int) : pl (l ++ [x]) = pl l + x := by simp [pl]
theorem sh_snoc_zero (l : List Int) : sh (l ++ [0]) = sh l := by simp [sh]
theorem sh_snoc (l : List Int) (x : Int) (h : x ≠ 0) : sh (l ++ [x]) = sh l + 1 := by
  simp [sh, List.filter_append, h]
theorem sm_snoc (l : List Int) (x : Int) : sm (l ++ [x]) = (sm l && decide (x ≤ 128)) := by simp [sm]
theorem lg_snoc (l : List Int) (x : Int) : lg (l ++ [x]) = (lg l && (x == 0 || decide (128 < x))) := by simp [lg]

/-- a list grown at its end: the way in which all facts below are shown -/
theorem snoc_ind (p : List Int → Prop) (h0 : p []) (hs : ∀ l x, p l → p (l ++ [x])) (l : List Int) : p l := by
  have h : ∀ n (l : List Int), l.length = n → p l := by
    intro n
    induction n with
    | zero => intro l hl; have : l = [] := List.eq_nil_of_length_eq_zero hl; rw [this]; exact h0
    | succ n ih =>
      intro l hl
      have hne : l ≠ [] := by intro h; rw [h] at hl; simp at hl
      rw [← List.dropLast_concat_getLast hne]
      exact hs _ _ (ih _ (by rw [List.length_dropLast, hl]; rfl))
  exact h _ l rfl

theorem bounds (l : List Int) (h : ∀ x ∈ l, 0 ≤ x ∧ x ≤ 65536) : 0 ≤ pl l ∧ pl l ≤ 65536 * (l.length : Int) ∧ 0 ≤ sh l ∧ sh l ≤ (l.length : Int) := by
  revert h
  refine snoc_ind (fun l => (∀ x ∈ l, 0 ≤ x ∧ x ≤ 65536) → 0 ≤ pl l ∧ pl l ≤ 65536 * (l.length : Int) ∧ 0 ≤ sh l ∧ sh l ≤ (l.length : Int)) ?_ ?_ l
  · intro _; simp [pl, sh]
  · intro l x ih h
    have hl := ih (fun y hy => h y (List.mem_append_left _ hy))
    have hx := h x (List.mem_append_right _ (List.mem_singleton.2 rfl))
    rw [pl_snoc]
    simp only [List.length_append, List.length_singleton]
    by_cases e : x = 0
    · subst e; rw [sh_snoc_zero]; omega
    · rw [sh_snoc _ _ e]; omega

theorem small_law (l : List Int) (h : ∀ x ∈ l, 0 ≤ x) (hs : sm l = true) : pl l ≤ 128 * sh l := by
  revert h hs
  refine snoc_ind (fun l => (∀ x ∈ l, 0 ≤ x) → sm l = true → pl l ≤ 128 * sh l) ?_ ?_ l
  · intro _ _; simp [pl, sh]
  · intro l x ih h hs
    rw [sm_snoc] at hs
    simp only [Bool.and_eq_true, decide_eq_true_eq] at hs
    have hl := ih (fun y hy => h y (List.mem_append_left _ hy)) hs.1
    rw [pl_snoc]
    by_cases e : x = 0
    · subst e; rw [sh_snoc_zero]; omega
    · rw [sh_snoc _ _ e]; omega

theorem large_law (l : List Int) (hs : lg l = true) : 128 * sh l ≤ pl l ∧ (sm l = false → 128 * sh l < pl l) := by
  revert hs
  refine snoc_ind (fun l => lg l = true → 128 * sh l ≤ pl l ∧ (sm l = false → 128 * sh l < pl l)) ?_ ?_ l
  · intro _; simp [pl, sh, sm]
  · intro l x ih hs
    rw [lg_snoc] at hs
    simp only [Bool.and_eq_true, Bool.or_eq_true, beq_iff_eq, decide_eq_true_eq] at hs
    have hl := ih hs.1
    rw [pl_snoc, sm_snoc]
    by_cases e : x = 0
    · subst e; rw [sh_snoc_zero]
      refine ⟨by omega, fun h => ?_⟩
      have : sm l = false := by simpa using h
      have := hl.2 this
      omega
    · rw [sh_snoc _ _ e]
      have hx : 128 < x := by rcases hs.2 with h | h
                              · exact absurd h e
                              · exact h
      exact ⟨by omega, fun _ => by omega⟩

theorem shares_pos (l : List Int) (hs : sm l = false) : 0 < sh l := by
  revert hs
  refine snoc_ind (fun l => sm l = false → 0 < sh l) ?_ ?_ l
  · intro h; simp [sm] at h
  · intro l x ih hs
    rw [sm_snoc] at hs
    by_cases e : x = 0
    · subst e; rw [sh_snoc_zero]; exact ih (by simpa using hs)
    · rw [sh_snoc _ _ e]
      have : 0 ≤ sh l := by unfold sh; omega
      omega

/-- 'p <= 128 s', by the quotient and the rest -/
theorem mean_law (p s : Int) (hp : 0 ≤ p) (hs : 0 < s) : p ≤ 128 * s ↔ (p / s < 128 ∨ (p / s = 128 ∧ p % s = 0)) := by
  have e : s * (p / s) + p % s = p := Int.mul_ediv_add_emod p s
  have r0 : 0 ≤ p % s := Int.emod_nonneg _ (by omega)
  have r1 : p % s < s := Int.emod_lt_of_pos _ hs
  have q0 : 0 ≤ p / s := Int.ediv_nonneg hp (by omega)
  generalize p / s = q at *
  generalize p % s = r at *
  constructor
  · intro h
    by_cases h1 : q < 128
    · exact .inl h1
    · right
      by_cases h2 : q = 128
      · subst h2; refine ⟨rfl, ?_⟩; rw [Int.mul_comm] at e; omega
      · exfalso
        have : s * 129 ≤ s * q := Int.mul_le_mul_of_nonneg_left (by omega) (by omega)
        omega
  · rintro (h | ⟨h, hr⟩)
    · have : s * q ≤ s * 127 := Int.mul_le_mul_of_nonneg_left (by omega) (by omega)
      omega
    · subst h; omega
end Go.Proofs.Qxb6609388a.TabPlain
