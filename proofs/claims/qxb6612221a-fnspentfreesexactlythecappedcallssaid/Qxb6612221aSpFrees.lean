/- THE WALK of 'FnSpentFreesExactlyTheCappedCalls'. -/
import Derived.Test.Qxb6612221aSpWalks
namespace Go.Proofs.Qxb6612221a.Sp
open Go.RowKit

theorem sp_none (u : Int) : sp none u = false := rfl
theorem sp_some (c u : Int) : sp (some c) u = decide (c ≤ u) := rfl

set_option maxHeartbeats 1000000 in
theorem frees_out (p : Option Addr) (u : Int) (w : World) (h : u < 0 ∨ 65536 < u) :
    Calls Try.prog 3 #[.pointer p, .int .i64 u] w fun e w' => e = .returned (.bool true) ∧ Below w.heap.size w w' := by
  rcases h with h | h
  all_goals
    go_enter Try.func3, Try.ntmps3
    go_wp2
    go_ret
    exact ⟨rfl, Below.refl _ _⟩

set_option maxHeartbeats 1000000 in
theorem frees_nil (u : Int) (w : World) (u0 : 0 ≤ u) (u1 : u ≤ 65536) :
    Calls Try.prog 3 #[.pointer none, .int .i64 u] w fun e w' => e = .returned (.bool true) ∧ Below w.heap.size w w' := by
  go_enter Try.func3, Try.ntmps3
  go_wp2
  go_loopw [6, 7, 8] (fun f p i wr => ∃ k : Int, f = .int .i64 k ∧ p = .bool false ∧ i = .int .i64 k ∧ 0 ≤ k ∧ k ≤ u + 1 ∧ Hid (Below w.heap.size w wr)) (fun _ _ i _ => (u + 1 - intOf i).toNat)
  case atStart => exact ⟨0, rfl, rfl, rfl, by omega, by omega, Below.refl _ _⟩
  case round =>
    obtain ⟨k, rfl, rfl, rfl, k0, k1, HB⟩ := hrel
    by_cases hk : k ≤ u
    · go_wp2_with fail
      refine (quota_any _ _ _).mono ?_
      rintro e w1 ⟨rfl, hb1⟩
      go_wp2_with fail
      refine (zzspent_any _ none _ _ (.inl ⟨rfl, rfl⟩)).mono ?_
      rintro e w2 ⟨rfl, hb2⟩
      rw [sp_none]
      have HB2 : Hid (Below w.heap.size w w2) := by
        have h1 := HB.out.trans (hb1.mono HB.out.size)
        exact h1.trans (hb2.mono h1.size)
      clear hb1 hb2
      go_wp2
      go_roundw
      case rel => exact ⟨k + 1, rfl, rfl, rfl, by omega, by omega, HB2⟩
      case measure => simp [intOf]; omega
    · have hk' : k = u + 1 := by omega
      subst hk'
      go_wp2
      go_ret
      exact ⟨rfl, HB.out⟩

/-- how many of the counts below k are free -/
def freeOf (c k : Int) : Int := if c < 0 then 0 else if c < k then c else k
theorem freeOf_zero (c : Int) : freeOf c 0 = 0 := by unfold freeOf; (repeat' split) <;> omega
theorem freeOf_spent (c k : Int) (h : c ≤ k) : freeOf c (k + 1) = freeOf c k := by unfold freeOf; (repeat' split) <;> omega
theorem freeOf_free (c k : Int) (h : ¬ c ≤ k) (k0 : 0 ≤ k) : freeOf c (k + 1) = freeOf c k + 1 := by unfold freeOf; (repeat' split) <;> omega
theorem freeOf_bd (c k : Int) (k0 : 0 ≤ k) : 0 ≤ freeOf c k ∧ freeOf c k ≤ k := by unfold freeOf; (repeat' split) <;> omega

set_option maxHeartbeats 2000000 in
theorem frees_some (b off : Nat) (c u : Int) (w : World) (hc : w.cell? ⟨b, off, none⟩ = some (.int .i64 c)) (u0 : 0 ≤ u) (u1 : u ≤ 65536) :
    Calls Try.prog 3 #[.pointer (some ⟨b, off, none⟩), .int .i64 u] w fun e w' => e = .returned (.bool true) ∧ Below w.heap.size w w' := by
  go_enter Try.func3, Try.ntmps3
  go_wp2
  have hb0 : Below w.heap.size w (w.alloc (.cells #[.int .i64 c] 3)) := (Below.refl _ _).alloc (Nat.le_refl _) _
  have hl0 : LimP (w.alloc (.cells #[.int .i64 c] 3)) (.pointer (some ⟨w.heap.size, 0, none⟩)) (some c) := .inr ⟨_, _, c, rfl, by simp, rfl⟩
  have HL0 : Hid (LimP (w.alloc (.cells #[.int .i64 c] 3)) (.pointer (some ⟨w.heap.size, 0, none⟩)) (some c)) := hl0
  have HB0 : Hid (Below w.heap.size w (w.alloc (.cells #[.int .i64 c] 3))) := hb0
  clear hb0 hl0 hc
  go_loopw [6, 7, 8] (fun f p i wr => ∃ (k F : Int) (P : Bool), f = .int .i64 F ∧ p = .bool P ∧ i = .int .i64 k ∧ 0 ≤ k ∧ k ≤ u + 1 ∧ 0 ≤ F ∧ F ≤ k ∧ Hid (F = freeOf c k ∧ (P = true → c ≤ k)) ∧ Hid (Below w.heap.size w wr ∧ LimP wr (.pointer (some ⟨w.heap.size, 0, none⟩)) (some c))) (fun _ _ i _ => (u + 1 - intOf i).toNat)
  case atStart => exact ⟨0, 0, false, rfl, rfl, rfl, by omega, by omega, by omega, by omega, ⟨(freeOf_zero c).symm, fun h => by cases h⟩, HB0.out, HL0.out⟩
  case round =>
    obtain ⟨k, F, P, rfl, rfl, rfl, k0, k1, F0, F1, HF, HB⟩ := hrel
    by_cases hk : k ≤ u
    · go_wp2_with fail
      refine (quota_any _ _ _).mono ?_
      rintro e w1 ⟨rfl, hb1⟩
      go_wp2_with fail
      refine (zzspent_any _ (some c) _ _ (HB.out.2.below hb1)).mono ?_
      rintro e w2 ⟨rfl, hb2⟩
      rw [sp_some]
      have HB2 : Hid (Below w.heap.size w w2 ∧ LimP w2 (.pointer (some ⟨w.heap.size, 0, none⟩)) (some c)) := by
        have h1 := HB.out.1.trans (hb1.mono HB.out.1.size)
        exact ⟨h1.trans (hb2.mono h1.size), (HB.out.2.below hb1).below hb2⟩
      clear hb1 hb2
      by_cases hck : c ≤ k
      · have HF2 : Hid (F = freeOf c (k + 1)) := by rw [freeOf_spent c k hck]; exact HF.out.1
        have hck1 : c ≤ k + 1 := by omega
        rw [decide_eq_true hck]
        clear hck
        go_wp2
        all_goals
          go_roundw
          case rel => exact ⟨k + 1, F, true, rfl, rfl, rfl, by omega, by omega, by omega, by omega, ⟨HF2, fun _ => hck1⟩, HB2⟩
          case measure => simp [intOf]; omega
      · have hP : P = false := by
          cases P
          · rfl
          · exact absurd (HF.out.2 rfl) hck
        subst hP
        have HF2 : Hid (F + 1 = freeOf c (k + 1)) := by
          show F + 1 = freeOf c (k + 1)
          rw [freeOf_free c k hck k0, ← HF.out.1]
        rw [decide_eq_false hck]
        clear hck
        go_wp2
        go_roundw
        case rel => exact ⟨k + 1, F + 1, false, rfl, rfl, rfl, by omega, by omega, by omega, by omega, ⟨HF2, fun h => by cases h⟩, HB2⟩
        case measure => simp [intOf]; omega
    · have hk' : k = u + 1 := by omega
      have hF := HF.out.1
      rw [hk'] at hF
      obtain ⟨b', off', c', e1, e2, e3⟩ := HB.out.2.resolve_left (fun h => by cases h.2)
      obtain ⟨rfl, rfl⟩ : b' = w.heap.size ∧ off' = 0 := by simpa [eq_comm] using e1
      obtain rfl : c' = c := by simpa [eq_comm] using e3
      clear e1 e3 HF hk'
      by_cases g1 : c' < 0
      · have hF' : F = 0 := by rw [hF]; unfold freeOf; rw [if_pos g1]
        subst hF'
        clear hF
        go_wp2
        go_ret
        exact ⟨rfl, HB.out.1⟩
      · by_cases g2 : c' < u + 1
        · have hF' : F = c' := by rw [hF]; unfold freeOf; rw [if_neg g1, if_pos g2]
          subst hF'
          clear hF
          go_wp2
          go_ret
          exact ⟨ret_bool (by simp), HB.out.1⟩
        · have hF' : F = u + 1 := by rw [hF]; unfold freeOf; rw [if_neg g1, if_neg g2]
          subst hF'
          clear hF
          go_wp2
          go_ret
          exact ⟨ret_bool (by simp), HB.out.1⟩
end Go.Proofs.Qxb6612221a.Sp
