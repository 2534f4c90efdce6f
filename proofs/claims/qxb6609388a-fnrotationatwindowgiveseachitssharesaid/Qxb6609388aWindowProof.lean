/-
  THE SHELL OF A PROOF OF 'Rows.FnRotationAtWindowGivesEachItsShareSaid' ('example.com/evenkeel/evenkeel/zzlaws_root_b1.FnRotationAtWindowGivesEachItsShare'), WRITTEN BY PROGRAM (proof-skeleton.mjs) off the guide's own print for that function.
  The walk is ours, and the row's step goes by 'Below' (the appends may grow: no world written out); all else is the shell's.
-/
import Derived.Test.Qxb6609388aRows
import Derived.WalkKit
import Derived.ProofKit
import Derived.OpenShut
import Derived.ShutString
import Derived.ChangeOld
import Derived.Below
import Derived.Outline
import Derived.Test.Qxb6609388aSpAdd
namespace Go.Proofs.Qxb6609388a.fnRotationAtWindowGivesEachItsShare
open Go.ChangeShapes Go.WideShapes Go.ChangeAt Go.RowKit
open Go.ChangeMaps (open_string shut_string)
set_option linter.unusedVariables false      -- a walk need not use every 'w<i>' (that an integer argument fits its kind)

theorem own : ownKnob Try.prog.godebug = none := by kernel_rfl

/-! ### STEP 1: THE WALK -/
open Sp SpPlain
theorem u64_bd {a : Int} (h : (Lit.int .u64 a).wf = true) : 0 ≤ a ∧ a ≤ 18446744073709551615 := bounds_u64 h
theorem ret_bool {a b : Bool} (h : a = b) : Ending.returned (.bool a) = .returned (.bool b) := by rw [h]

theorem zzAt_is (f : Bool) (b g cap : Nat) (tA n tB m L c : Int) (w : World) (h : IsPlan w g tA n tB m L) (r0 : w.cell? ⟨b, 0, none⟩ = some (.int .u64 L)) (r2 : w.cell? ⟨b, 2, none⟩ = some (.slice (some ⟨g, 0, none⟩) 3 cap))
    (n0 : 1 ≤ n) (n1 : n ≤ 65536) (L0 : n ≤ L) (L1 : L ≤ 131072) (c0 : 0 ≤ c) (c1 : c ≤ 18446744073709551615) (hf : isF n L c = f) :
    Calls Try.prog 10 #[.pointer (some ⟨b, 0, none⟩), .int .u64 c] w fun e w' => e = .returned (.int .u32 (bif f then tA else tB)) ∧ ∃ k, w' = w.drewN k := by
  refine (zzAt_any b g cap tA n tB m L c w h r0 r2 n0 n1 L0 L1 c0 c1).mono ?_
  rintro e w' ⟨rfl, hk⟩
  refine ⟨ret_int ?_, hk⟩
  unfold tg
  rw [isF_mod, hf]
  cases f <;> rfl

/-- WHAT HOLDS AHEAD OF ROUND k: how many places each has had, and whether the last place was the lighter's -/
def Seen (n m c k A B : Int) (p : Bool) : Prop :=
  (k ≤ n + m → A = cnt n (n + m) (c + k) - cnt n (n + m) c ∧ B = k - A) ∧ (n + m < k → A = n ∧ B = m) ∧ (0 < k → p = (isF n (n + m) (c + k - 1) != decide (m ≤ n)))
theorem seen_start (n m c : Int) (n0 : 1 ≤ n) (m0 : 1 ≤ m) : Seen n m c 0 0 0 false := by
  refine ⟨fun _ => ?_, fun h => ?_, fun h => ?_⟩
  · rw [Int.add_zero]; omega
  · omega
  · omega
theorem seen_hit {n m c k A B : Int} {p : Bool} (n0 : 1 ≤ n) (m0 : 1 ≤ m) (h : Seen n m c k A B p) (k0 : 0 ≤ k) (k1 : k < n + m) (hf : isF n (n + m) (c + k) = true) (q : Bool) (hq : (true != decide (m ≤ n)) = q) :
    Seen n m c (k + 1) (A + 1) B q := by
  have a := (cnt_next n (n + m) (c + k) (by omega) n0 (by omega)).1
  rw [if_pos hf] at a
  have h1 := h.1 (by omega)
  refine ⟨fun _ => ?_, fun hh => by omega, fun _ => ?_⟩
  · rw [show c + (k + 1) = c + k + 1 by omega]; omega
  · rw [show c + (k + 1) - 1 = c + k by omega, hf]; exact hq.symm
theorem seen_miss {n m c k A B : Int} {p : Bool} (n0 : 1 ≤ n) (m0 : 1 ≤ m) (h : Seen n m c k A B p) (k0 : 0 ≤ k) (k1 : k < n + m) (hf : isF n (n + m) (c + k) = false) (q : Bool) (hq : (false != decide (m ≤ n)) = q) :
    Seen n m c (k + 1) A (B + 1) q := by
  have a := (cnt_next n (n + m) (c + k) (by omega) n0 (by omega)).1
  rw [if_neg (by simp [hf])] at a
  have h1 := h.1 (by omega)
  refine ⟨fun _ => ?_, fun hh => by omega, fun _ => ?_⟩
  · rw [show c + (k + 1) = c + k + 1 by omega]; omega
  · rw [show c + (k + 1) - 1 = c + k by omega, hf]; exact hq.symm
theorem seen_last {n m c A B : Int} {p : Bool} (n0 : 1 ≤ n) (m0 : 1 ≤ m) (h : Seen n m c (n + m) A B p) (f : Bool) (hf : isF n (n + m) (c + (n + m)) = f) (q : Bool) (hq : (f != decide (m ≤ n)) = q) :
    Seen n m c (n + m + 1) A B q := by
  have a := cnt_window n (n + m) c (by omega)
  have h1 := h.1 (by omega)
  refine ⟨fun _ => by omega, fun hh => by omega, fun _ => ?_⟩
  rw [show c + (n + m + 1) - 1 = c + (n + m) by omega, hf]; exact hq.symm
theorem seen_bd {n m c k A B : Int} {p : Bool} (n0 : 1 ≤ n) (m0 : 1 ≤ m) (k0 : 0 ≤ k) (k1 : k ≤ n + m) (h : Seen n m c k A B p) (hA : 0 ≤ A) (hB : 0 ≤ B) : A ≤ n + m ∧ B ≤ n + m := by
  have h1 := h.1 k1
  omega
theorem seen_two {n m c k A B : Int} {p : Bool} (n0 : 1 ≤ n) (m0 : 1 ≤ m) (h : Seen n m c k A B p) (k0 : 0 < k) (hf : (isF n (n + m) (c + k) != decide (m ≤ n)) = true) : p = false := by
  have a := never_two n m (c + k - 1) n0 m0
  rw [show c + k - 1 + 1 = c + k by omega, hf] at a
  rw [h.2.2 k0]
  simpa using a

set_option maxHeartbeats 8000000 in
theorem walk (a0 : Int) (a1 : Int) (a2 : Int) (a3 : Int) (a4 : Int) (w0 : (Lit.int .u32 a0).wf = true) (w1 : (Lit.int .u64 a1).wf = true) (w2 : (Lit.int .u32 a2).wf = true) (w3 : (Lit.int .u64 a3).wf = true) (w4 : (Lit.int .u64 a4).wf = true) (w : World) :
    Calls Try.prog 5 #[.int .u32 a0, .int .u64 a1, .int .u32 a2, .int .u64 a3, .int .u64 a4] w fun e w' => e = .returned (.bool true) ∧ Below w.heap.size w w' := by
  obtain ⟨c0, c1⟩ := u64_bd w4
  clear w0 w1 w2 w3 w4
  by_cases n0 : a1 < 1
  · go_enter Try.func5, Try.ntmps5
    go_wp2
    go_ret
    exact ⟨rfl, Below.refl _ _⟩
  by_cases n1 : 65536 < a1
  · go_enter Try.func5, Try.ntmps5
    go_wp2
    go_ret
    exact ⟨rfl, Below.refl _ _⟩
  by_cases m0 : a3 < 1
  · go_enter Try.func5, Try.ntmps5
    go_wp2
    go_ret
    exact ⟨rfl, Below.refl _ _⟩
  by_cases m1 : 65536 < a3
  · go_enter Try.func5, Try.ntmps5
    go_wp2
    go_ret
    exact ⟨rfl, Below.refl _ _⟩
  have n0' : 1 ≤ a1 := by omega
  have n1' : a1 ≤ 65536 := by omega
  have m0' : 1 ≤ a3 := by omega
  have m1' : a3 ≤ 65536 := by omega
  by_cases hne : a0 = a2
  · have hne' : (a0 == a2) = true := beq_iff_eq.2 hne
    clear hne
    go_enter Try.func5, Try.ntmps5
    go_wp2
    go_ret
    exact ⟨rfl, Below.refl _ _⟩
  have hne' : (a0 == a2) = false := beq_eq_false_iff_ne.2 hne
  have hne2 : (a2 == a0) = false := beq_eq_false_iff_ne.2 (fun h => hne h.symm)
  have hne3 : (a2 != a0) = true := bne_iff_ne.2 (fun h => hne h.symm)
  have hne4 : ¬ a2 = a0 := fun h => hne h.symm
  by_cases hcap : 18446744073709551615 - (a1 + a3) < a4
  · go_enter Try.func5, Try.ntmps5
    go_wp2
    go_ret
    exact ⟨rfl, Below.refl _ _⟩
  have hcap' : a4 + (a1 + a3) ≤ 18446744073709551615 := by omega
  clear hne n0 n1 m0 m1 hcap
  by_cases hlb : a3 ≤ a1
  · have hlbd : decide (a3 ≤ a1) = true := decide_eq_true hlb
    go_enter Try.func5, Try.ntmps5
    go_wp2_with (go_at_call 9; refine (spreadRot_any a0 a1 a2 a3 _ n0' n1' m0' m1').mono ?_; rintro e w1 ⟨rfl, g, cap, hr, hbel⟩)
    have HR : Hid (IsRot w1 w.heap.size g cap a0 a1 a2 a3 (a1 + a3)) := hr
    have HB : Hid (Below w.heap.size w w1) := hbel
    clear hr hbel
    go_loopw [14, 15, 16, 17] (fun sa sb pv i wr => ∃ (k A B : Int) (p : Bool) (j : Nat), sa = .int .u64 A ∧ sb = .int .u64 B ∧ pv = .bool p ∧ i = .int .u64 k ∧ 0 ≤ k ∧ k ≤ a1 + a3 + 1 ∧ 0 ≤ A ∧ 0 ≤ B ∧ Seen a1 a3 a4 k A B p ∧ wr = w1.drewN j) (fun _ _ _ i _ => (a1 + a3 + 1 - intOf i).toNat)
    case atStart => exact ⟨0, 0, 0, false, 0, rfl, rfl, rfl, rfl, by omega, by omega, by omega, by omega, seen_start _ _ _ n0' m0', rfl⟩
    case round =>
      obtain ⟨k, A, B, p, j, rfl, rfl, rfl, rfl, k0, k1, A0, B0, hs, rfl⟩ := hrel
      by_cases hk : k ≤ a1 + a3
      · obtain ⟨A1, B1⟩ := seen_bd n0' m0' k0 hk hs A0 B0
        have HS : Hid (Seen a1 a3 a4 k A B p) := hs
        clear hs
        cases hf : isF a1 (a1 + a3) (a4 + k)
        · skip
          have HF : Hid (isF a1 (a1 + a3) (a4 + k) = false) := hf
          clear hf
          by_cases hk0 : k = 0
          · subst hk0
            have hkl : (0 : Int) < a1 + a3 := by omega
            have HF0 : Hid (isF a1 (a1 + a3) (a4 + 0) = false) := HF
            rw [Int.add_zero] at HF
            go_wp2_with (go_at_call 10; refine (zzAt_is false _ g cap a0 a1 a2 a3 (a1 + a3) a4 _ (HR.out.drewN _).pl (HR.out.drewN _).r0 (HR.out.drewN _).r2 n0' n1' (by omega) (by omega) (by omega) (by omega) HF.out).mono ?_; rintro e w2 ⟨rfl, j2, rfl⟩)
            all_goals
              go_roundw
              case rel => exact ⟨0 + 1, A, B + 1, true, _, rfl, rfl, rfl, by first | rfl | go_num, by omega, by omega, by omega, by omega, seen_miss n0' m0' HS.out k0 hkl HF0.out _ (by simp [hlb]), rfl⟩
              case measure => simp [intOf]; omega
          · have hp : p = false := seen_two n0' m0' HS.out (by omega) (by rw [HF.out]; simp [hlb])
            subst hp
            have hk0' : 0 < k := by omega
            by_cases hkl : k < a1 + a3
            · go_wp2_with (go_at_call 10; refine (zzAt_is false _ g cap a0 a1 a2 a3 (a1 + a3) (a4 + k) _ (HR.out.drewN _).pl (HR.out.drewN _).r0 (HR.out.drewN _).r2 n0' n1' (by omega) (by omega) (by omega) (by omega) HF.out).mono ?_; rintro e w2 ⟨rfl, j2, rfl⟩)
              all_goals
                go_roundw
                case rel => exact ⟨k + 1, A, B + 1, true, _, rfl, rfl, rfl, by first | rfl | go_num, by omega, by omega, by omega, by omega, seen_miss n0' m0' HS.out k0 hkl HF.out _ (by simp [hlb]), rfl⟩
                case measure => simp [intOf]; omega
            · obtain rfl : k = a1 + a3 := by omega
              go_wp2_with (go_at_call 10; refine (zzAt_is false _ g cap a0 a1 a2 a3 (a1 + a3) (a4 + (a1 + a3)) _ (HR.out.drewN _).pl (HR.out.drewN _).r0 (HR.out.drewN _).r2 n0' n1' (by omega) (by omega) (by omega) (by omega) HF.out).mono ?_; rintro e w2 ⟨rfl, j2, rfl⟩)
              all_goals
                go_roundw
                case rel => exact ⟨a1 + a3 + 1, A, B, true, _, rfl, rfl, rfl, by first | rfl | go_num, by omega, by omega, by omega, by omega, seen_last n0' m0' HS.out _ HF.out _ (by simp [hlb]), rfl⟩
                case measure => simp [intOf]; omega
        · skip
          have HF : Hid (isF a1 (a1 + a3) (a4 + k) = true) := hf
          clear hf
          by_cases hk0 : 0 < k
          · skip
            by_cases hkl : k < a1 + a3
            · go_wp2_with (go_at_call 10; refine (zzAt_is true _ g cap a0 a1 a2 a3 (a1 + a3) (a4 + k) _ (HR.out.drewN _).pl (HR.out.drewN _).r0 (HR.out.drewN _).r2 n0' n1' (by omega) (by omega) (by omega) (by omega) HF.out).mono ?_; rintro e w2 ⟨rfl, j2, rfl⟩)
              all_goals
                go_roundw
                case rel => exact ⟨k + 1, A + 1, B, false, _, rfl, rfl, rfl, by first | rfl | go_num, by omega, by omega, by omega, by omega, seen_hit n0' m0' HS.out k0 hkl HF.out _ (by simp [hlb]), rfl⟩
                case measure => simp [intOf]; omega
            · obtain rfl : k = a1 + a3 := by omega
              go_wp2_with (go_at_call 10; refine (zzAt_is true _ g cap a0 a1 a2 a3 (a1 + a3) (a4 + (a1 + a3)) _ (HR.out.drewN _).pl (HR.out.drewN _).r0 (HR.out.drewN _).r2 n0' n1' (by omega) (by omega) (by omega) (by omega) HF.out).mono ?_; rintro e w2 ⟨rfl, j2, rfl⟩)
              all_goals
                go_roundw
                case rel => exact ⟨a1 + a3 + 1, A, B, false, _, rfl, rfl, rfl, by first | rfl | go_num, by omega, by omega, by omega, by omega, seen_last n0' m0' HS.out _ HF.out _ (by simp [hlb]), rfl⟩
                case measure => simp [intOf]; omega
          · obtain rfl : k = 0 := by omega
            have hkl : (0 : Int) < a1 + a3 := by omega
            have HF0 : Hid (isF a1 (a1 + a3) (a4 + 0) = true) := HF
            rw [Int.add_zero] at HF
            go_wp2_with (go_at_call 10; refine (zzAt_is true _ g cap a0 a1 a2 a3 (a1 + a3) a4 _ (HR.out.drewN _).pl (HR.out.drewN _).r0 (HR.out.drewN _).r2 n0' n1' (by omega) (by omega) (by omega) (by omega) HF.out).mono ?_; rintro e w2 ⟨rfl, j2, rfl⟩)
            all_goals
              go_roundw
              case rel => exact ⟨0 + 1, A + 1, B, false, _, rfl, rfl, rfl, by first | rfl | go_num, by omega, by omega, by omega, by omega, seen_hit n0' m0' HS.out k0 hkl HF0.out _ (by simp [hlb]), rfl⟩
              case measure => simp [intOf]; omega
      · obtain ⟨rfl, rfl⟩ := hs.2.1 (by omega)
        clear hs
        go_wp2
        go_ret
        exact ⟨rfl, Tab.below_drewN HB.out _⟩
  · have hlbd : decide (a3 ≤ a1) = false := decide_eq_false hlb
    go_enter Try.func5, Try.ntmps5
    go_wp2_with (go_at_call 9; refine (spreadRot_any a0 a1 a2 a3 _ n0' n1' m0' m1').mono ?_; rintro e w1 ⟨rfl, g, cap, hr, hbel⟩)
    have HR : Hid (IsRot w1 w.heap.size g cap a0 a1 a2 a3 (a1 + a3)) := hr
    have HB : Hid (Below w.heap.size w w1) := hbel
    clear hr hbel
    go_loopw [14, 15, 16, 17] (fun sa sb pv i wr => ∃ (k A B : Int) (p : Bool) (j : Nat), sa = .int .u64 A ∧ sb = .int .u64 B ∧ pv = .bool p ∧ i = .int .u64 k ∧ 0 ≤ k ∧ k ≤ a1 + a3 + 1 ∧ 0 ≤ A ∧ 0 ≤ B ∧ Seen a1 a3 a4 k A B p ∧ wr = w1.drewN j) (fun _ _ _ i _ => (a1 + a3 + 1 - intOf i).toNat)
    case atStart => exact ⟨0, 0, 0, false, 0, rfl, rfl, rfl, rfl, by omega, by omega, by omega, by omega, seen_start _ _ _ n0' m0', rfl⟩
    case round =>
      obtain ⟨k, A, B, p, j, rfl, rfl, rfl, rfl, k0, k1, A0, B0, hs, rfl⟩ := hrel
      by_cases hk : k ≤ a1 + a3
      · obtain ⟨A1, B1⟩ := seen_bd n0' m0' k0 hk hs A0 B0
        have HS : Hid (Seen a1 a3 a4 k A B p) := hs
        clear hs
        cases hf : isF a1 (a1 + a3) (a4 + k)
        · skip
          have HF : Hid (isF a1 (a1 + a3) (a4 + k) = false) := hf
          clear hf
          by_cases hk0 : 0 < k
          · skip
            by_cases hkl : k < a1 + a3
            · go_wp2_with (go_at_call 10; refine (zzAt_is false _ g cap a0 a1 a2 a3 (a1 + a3) (a4 + k) _ (HR.out.drewN _).pl (HR.out.drewN _).r0 (HR.out.drewN _).r2 n0' n1' (by omega) (by omega) (by omega) (by omega) HF.out).mono ?_; rintro e w2 ⟨rfl, j2, rfl⟩)
              all_goals
                go_roundw
                case rel => exact ⟨k + 1, A, B + 1, false, _, rfl, rfl, rfl, by first | rfl | go_num, by omega, by omega, by omega, by omega, seen_miss n0' m0' HS.out k0 hkl HF.out _ (by simp [hlb]), rfl⟩
                case measure => simp [intOf]; omega
            · obtain rfl : k = a1 + a3 := by omega
              go_wp2_with (go_at_call 10; refine (zzAt_is false _ g cap a0 a1 a2 a3 (a1 + a3) (a4 + (a1 + a3)) _ (HR.out.drewN _).pl (HR.out.drewN _).r0 (HR.out.drewN _).r2 n0' n1' (by omega) (by omega) (by omega) (by omega) HF.out).mono ?_; rintro e w2 ⟨rfl, j2, rfl⟩)
              all_goals
                go_roundw
                case rel => exact ⟨a1 + a3 + 1, A, B, false, _, rfl, rfl, rfl, by first | rfl | go_num, by omega, by omega, by omega, by omega, seen_last n0' m0' HS.out _ HF.out _ (by simp [hlb]), rfl⟩
                case measure => simp [intOf]; omega
          · obtain rfl : k = 0 := by omega
            have hkl : (0 : Int) < a1 + a3 := by omega
            have HF0 : Hid (isF a1 (a1 + a3) (a4 + 0) = false) := HF
            rw [Int.add_zero] at HF
            go_wp2_with (go_at_call 10; refine (zzAt_is false _ g cap a0 a1 a2 a3 (a1 + a3) a4 _ (HR.out.drewN _).pl (HR.out.drewN _).r0 (HR.out.drewN _).r2 n0' n1' (by omega) (by omega) (by omega) (by omega) HF.out).mono ?_; rintro e w2 ⟨rfl, j2, rfl⟩)
            all_goals
              go_roundw
              case rel => exact ⟨0 + 1, A, B + 1, false, _, rfl, rfl, rfl, by first | rfl | go_num, by omega, by omega, by omega, by omega, seen_miss n0' m0' HS.out k0 hkl HF0.out _ (by simp [hlb]), rfl⟩
              case measure => simp [intOf]; omega
        · skip
          have HF : Hid (isF a1 (a1 + a3) (a4 + k) = true) := hf
          clear hf
          by_cases hk0 : k = 0
          · subst hk0
            have hkl : (0 : Int) < a1 + a3 := by omega
            have HF0 : Hid (isF a1 (a1 + a3) (a4 + 0) = true) := HF
            rw [Int.add_zero] at HF
            go_wp2_with (go_at_call 10; refine (zzAt_is true _ g cap a0 a1 a2 a3 (a1 + a3) a4 _ (HR.out.drewN _).pl (HR.out.drewN _).r0 (HR.out.drewN _).r2 n0' n1' (by omega) (by omega) (by omega) (by omega) HF.out).mono ?_; rintro e w2 ⟨rfl, j2, rfl⟩)
            all_goals
              go_roundw
              case rel => exact ⟨0 + 1, A + 1, B, true, _, rfl, rfl, rfl, by first | rfl | go_num, by omega, by omega, by omega, by omega, seen_hit n0' m0' HS.out k0 hkl HF0.out _ (by simp [hlb]), rfl⟩
              case measure => simp [intOf]; omega
          · have hp : p = false := seen_two n0' m0' HS.out (by omega) (by rw [HF.out]; simp [hlb])
            subst hp
            have hk0' : 0 < k := by omega
            by_cases hkl : k < a1 + a3
            · go_wp2_with (go_at_call 10; refine (zzAt_is true _ g cap a0 a1 a2 a3 (a1 + a3) (a4 + k) _ (HR.out.drewN _).pl (HR.out.drewN _).r0 (HR.out.drewN _).r2 n0' n1' (by omega) (by omega) (by omega) (by omega) HF.out).mono ?_; rintro e w2 ⟨rfl, j2, rfl⟩)
              all_goals
                go_roundw
                case rel => exact ⟨k + 1, A + 1, B, true, _, rfl, rfl, rfl, by first | rfl | go_num, by omega, by omega, by omega, by omega, seen_hit n0' m0' HS.out k0 hkl HF.out _ (by simp [hlb]), rfl⟩
                case measure => simp [intOf]; omega
            · obtain rfl : k = a1 + a3 := by omega
              go_wp2_with (go_at_call 10; refine (zzAt_is true _ g cap a0 a1 a2 a3 (a1 + a3) (a4 + (a1 + a3)) _ (HR.out.drewN _).pl (HR.out.drewN _).r0 (HR.out.drewN _).r2 n0' n1' (by omega) (by omega) (by omega) (by omega) HF.out).mono ?_; rintro e w2 ⟨rfl, j2, rfl⟩)
              all_goals
                go_roundw
                case rel => exact ⟨a1 + a3 + 1, A, B, true, _, rfl, rfl, rfl, by first | rfl | go_num, by omega, by omega, by omega, by omega, seen_last n0' m0' HS.out _ HF.out _ (by simp [hlb]), rfl⟩
                case measure => simp [intOf]; omega
      · obtain ⟨rfl, rfl⟩ := hs.2.1 (by omega)
        clear hs
        go_wp2
        go_ret
        exact ⟨rfl, Tab.below_drewN HB.out _⟩

/-! ### THE ROW's STEP: WRITTEN OUT: LEAVE IT -/
set_option maxRecDepth 100000 in
theorem lifted (os : Os) (started : os.Started) (H : Type) (enc : TypeId × Value → H) :
    ReturnsInHanded {} Try.checked os 5 .any (Rows.fnRotationAtWindowGivesEachItsShareSpec.pre6 enc Try.prog Try.f5 Rows.fnRotationAtWindowGivesEachItsShareRow.domain false) (Rows.fnRotationAtWindowGivesEachItsShareSpec.post enc Try.prog Try.f5 false true false false) := by
  refine returnsInHanded_of_change (C := Try.checked) own started (by kernel_rfl) Try.func5
    (ChangeSpec.witness6 (enc := enc) (C := Try.checked) false ⟨#[], #[.int .u32 0, .int .u64 0, .int .u32 0, .int .u64 0, .int .u64 0], []⟩ 8 (by kernel_rfl) (by kernel_rfl) (by kernel_rfl) (by kernel_rfl)) ?_
  intro W base args ds gs before hval0 hW hcnd _
  have hval : ∀ (j : Nat) t v, Try.f5.params[j]? = some t → args[j]? = some v → Value.okWide Try.prog W .any base t v := hval0
  have hW' := hW
  obtain ⟨p, q, hA0, hV, rfl, hfz, hnd⟩ := hW
  have hA : DataW.TrodAll enc Try.prog W 0 (fun _ => true) true Try.f5.params.toList args.toList ds p := hA0
  rw [Try.params5] at hA hval
  obtain ⟨v0, vs0, d0, ds0, p0, q0, hargs, rfl, rfl, h0, r0⟩ := trodAll_cons hA
  obtain ⟨v1, vs1, d1, ds1, p1, q1, rfl, rfl, rfl, h1, r1⟩ := trodAll_cons r0
  obtain ⟨v2, vs2, d2, ds2, p2, q2, rfl, rfl, rfl, h2, r2⟩ := trodAll_cons r1
  obtain ⟨v3, vs3, d3, ds3, p3, q3, rfl, rfl, rfl, h3, r3⟩ := trodAll_cons r2
  obtain ⟨v4, vs4, d4, ds4, p4, q4, rfl, rfl, rfl, h4, r4⟩ := trodAll_cons r3
  obtain ⟨rfl, rfl, rfl⟩ := trodAll_nil r4
  obtain rfl : args = #[v0, v1, v2, v3, v4] := by cases args; simp_all
  obtain ⟨rfl, rfl⟩ := trodVars_none hV
  obtain ⟨a0, rfl, rfl, rfl, w0⟩ := open_int Try.underlying28 (hval 0 28 v0 rfl rfl) h0
  obtain ⟨a1, rfl, rfl, rfl, w1⟩ := open_int Try.underlying24 (hval 1 24 v1 rfl rfl) h1
  obtain ⟨a2, rfl, rfl, rfl, w2⟩ := open_int Try.underlying28 (hval 2 28 v2 rfl rfl) h2
  obtain ⟨a3, rfl, rfl, rfl, w3⟩ := open_int Try.underlying24 (hval 3 24 v3 rfl rfl) h3
  obtain ⟨a4, rfl, rfl, rfl, w4⟩ := open_int Try.underlying24 (hval 4 24 v4 rfl rfl) h4
  clear hA0 hval0
  refine (walk a0 a1 a2 a3 a4 w0 w1 w2 w3 w4 W).mono fun e W' ⟨he, hg⟩ => ?_
  subst he
  exact ⟨_, rfl, _, _, _, [], _, [], hW', trodAll_mk1 (shut_bool Try.underlying4 _), (trodAll_cons_mk (shut_int Try.underlying28 w0) (trodAll_cons_mk (shut_int Try.underlying24 w1) (trodAll_cons_mk (shut_int Try.underlying28 w2) (trodAll_cons_mk (shut_int Try.underlying24 w3) (trodAll_cons_mk (shut_int Try.underlying24 w4) trodAll_mk0))))), rfl, hg.frame _, fun h => by cases h⟩

theorem over : Rows.fnRotationAtWindowGivesEachItsShareRow.holds Try.pinned (OpenSpec.ofChange Rows.fnRotationAtWindowGivesEachItsShareSpec) :=
  OpenClaim.holds_of_wide 5 Try.f5 rfl rfl rfl rfl rfl rfl rfl ⟨rfl, rfl, rfl, rfl, rfl⟩ rfl rfl rfl rfl rfl (by kernel_rfl) Try.func5 (by kernel_rfl)
    (of_decide_eq_true (by kernel_rfl)) (by unfold Func.isWrapper; first | (rw [if_pos (by decide +kernel)]; kernel_rfl) | (rw [if_neg (by decide +kernel)]; exact ⟨rfl, rfl⟩))
    (fun os started H enc _ => lifted os started H enc)

/-- ████ THE STATEMENT ████ -/
theorem proved : Rows.FnRotationAtWindowGivesEachItsShareSaid :=
  over
#print axioms proved
end Go.Proofs.Qxb6609388a.fnRotationAtWindowGivesEachItsShare
