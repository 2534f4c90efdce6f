/- THE WALK of 'FnSpentTurnsOnceAtTheCap'. -/
import Derived.Test.Qxb6612221aSpWalks
namespace Go.Proofs.Qxb6612221a.Sp
open Go.RowKit

theorem wrap_min : -9223372036854775808 < wrap64 (-9223372036854775809) := by unfold wrap64; omega

set_option maxHeartbeats 1000000 in
theorem turns_nil (u : Int) (w : World) (u0 : -9223372036854775808 ≤ u) (u1 : u ≤ 9223372036854775807) :
    Calls Try.prog 4 #[.pointer none, .int .i64 u] w fun e w' => e = .returned (.bool true) ∧ Below w.heap.size w w' := by
  by_cases hm : u = -9223372036854775808
  · subst hm
    have hw := wrap_min
    go_enter Try.func4, Try.ntmps4
    go_wp2
    go_ret
    exact ⟨rfl, Below.refl _ _⟩
  have u0' : -9223372036854775808 < u := by omega
  clear hm u0
  go_enter Try.func4, Try.ntmps4
  go_wp2_with fail
  refine (quota_any _ _ _).mono ?_
  rintro e w1 ⟨rfl, hb1⟩
  go_wp2_with fail
  refine (zzspent_any _ none _ _ (.inl ⟨rfl, rfl⟩)).mono ?_
  rintro e w2 ⟨rfl, hb2⟩
  go_wp2_with fail
  refine (quota_any _ _ _).mono ?_
  rintro e w3 ⟨rfl, hb3⟩
  go_wp2_with fail
  refine (zzspent_any _ none _ _ (.inl ⟨rfl, rfl⟩)).mono ?_
  rintro e w4 ⟨rfl, hb4⟩
  have HB : Hid (Below w.heap.size w w4) := by
    have h2 := hb1.trans (hb2.mono hb1.size)
    have h3 := h2.trans (hb3.mono h2.size)
    exact h3.trans (hb4.mono h3.size)
  clear hb1 hb2 hb3 hb4
  have e1 : sp none (u - 1) = false := rfl
  have e2 : sp none u = false := rfl
  rw [e2, e1]
  go_wp2
  go_ret
  exact ⟨rfl, HB.out⟩

/-- the cases of the law, number by number -/
theorem turns_plain (c u : Int) : ((sp (some c) (u - 1) = true ∧ sp (some c) u = true ∧ (u == c) = false) ∨ (sp (some c) (u - 1) = false ∧ sp (some c) u = true ∧ (u == c) = true) ∨ (sp (some c) (u - 1) = false ∧ sp (some c) u = false ∧ (u == c) = false)) := by
  unfold sp
  by_cases h1 : c ≤ u - 1
  · left; exact ⟨decide_eq_true h1, decide_eq_true (by omega), beq_eq_false_iff_ne.2 (by omega)⟩
  · by_cases h2 : u = c
    · right; left; exact ⟨decide_eq_false h1, decide_eq_true (by omega), beq_iff_eq.2 h2⟩
    · right; right; exact ⟨decide_eq_false h1, decide_eq_false (by omega), beq_eq_false_iff_ne.2 h2⟩

set_option maxHeartbeats 1000000 in
theorem turns_some (b off : Nat) (c u : Int) (w : World) (hc : w.cell? ⟨b, off, none⟩ = some (.int .i64 c)) (u0 : -9223372036854775808 ≤ u) (u1 : u ≤ 9223372036854775807) :
    Calls Try.prog 4 #[.pointer (some ⟨b, off, none⟩), .int .i64 u] w fun e w' => e = .returned (.bool true) ∧ Below w.heap.size w w' := by
  by_cases hm : u = -9223372036854775808
  · subst hm
    have hw := wrap_min
    go_enter Try.func4, Try.ntmps4
    go_wp2
    go_ret
    exact ⟨rfl, Below.refl _ _⟩
  have u0' : -9223372036854775808 < u := by omega
  have HP : Hid _ := turns_plain c u
  clear hm u0
  go_enter Try.func4, Try.ntmps4
  go_wp2_with fail
  have hb0 : Below w.heap.size w (w.alloc (.cells #[.int .i64 c] 3)) := (Below.refl _ _).alloc (Nat.le_refl _) _
  have hl0 : LimP (w.alloc (.cells #[.int .i64 c] 3)) (.pointer (some ⟨w.heap.size, 0, none⟩)) (some c) := .inr ⟨_, _, c, rfl, by simp, rfl⟩
  refine (quota_any _ _ _).mono ?_
  rintro e w1 ⟨rfl, hb1⟩
  have hl1 := hl0.below hb1
  go_wp2_with fail
  refine (zzspent_any _ (some c) _ _ hl1).mono ?_
  rintro e w2 ⟨rfl, hb2⟩
  have hl2 := hl1.below hb2
  go_wp2_with fail
  refine (quota_any _ _ _).mono ?_
  rintro e w3 ⟨rfl, hb3⟩
  have hl3 := hl2.below hb3
  go_wp2_with fail
  refine (zzspent_any _ (some c) _ _ hl3).mono ?_
  rintro e w4 ⟨rfl, hb4⟩
  have hl4 := hl3.below hb4
  have HB : Hid (Below w.heap.size w w4) := by
    have h1 := hb0.trans (hb1.mono hb0.size)
    have h2 := h1.trans (hb2.mono h1.size)
    have h3 := h2.trans (hb3.mono h2.size)
    exact h3.trans (hb4.mono h3.size)
  obtain ⟨b', off', c', e1, e2, e3⟩ := hl4.resolve_left (fun h => by cases h.2)
  obtain ⟨rfl, rfl⟩ : b' = w.heap.size ∧ off' = 0 := by simpa [eq_comm] using e1
  obtain rfl : c' = c := by simpa [eq_comm] using e3
  clear hb0 hb1 hb2 hb3 hb4 hl0 hl1 hl2 hl3 hl4 e1 e3
  rcases HP.out with ⟨q1, q2, q3⟩ | ⟨q1, q2, q3⟩ | ⟨q1, q2, q3⟩
  all_goals
    rw [q1, q2]
    clear q1 q2
    go_wp2
    go_ret
    exact ⟨rfl, HB.out⟩
end Go.Proofs.Qxb6612221a.Sp
