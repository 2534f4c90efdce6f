/-
  THE SHELL OF A PROOF OF 'Rows.FnRotationAtSpreadOfTwoSaid' ('example.com/evenkeel/evenkeel/zzlaws_root_b1.FnRotationAtSpreadOfTwo'), WRITTEN BY PROGRAM (proof-skeleton.mjs) off the guide's own print for that function.
  The walk is ours, and the row's step goes by 'Below' (the appends may grow: no world written out); all else is the shell's.
-/
import Derived.Test.Qxb6609388aRows
import Derived.WalkKit
import Derived.ProofKit
import Derived.OpenShut
import Derived.ShutString
import Derived.ChangeOld
import Derived.Below
import Derived.Outline
import Derived.Test.Qxb6609388aSpAdd
import Derived.Test.Qxb6609388aSpFirst
namespace Go.Proofs.Qxb6609388a.fnRotationAtSpreadOfTwo
open Go.ChangeShapes Go.WideShapes Go.ChangeAt Go.RowKit
open Go.ChangeMaps (open_string shut_string)
set_option linter.unusedVariables false      -- a walk need not use every 'w<i>' (that an integer argument fits its kind)

theorem own : ownKnob Try.prog.godebug = none := by kernel_rfl

/-! ### STEP 1: THE WALK -/
open Sp SpPlain
theorem u64_bd {a : Int} (h : (Lit.int .u64 a).wf = true) : 0 ≤ a ∧ a ≤ 18446744073709551615 := bounds_u64 h
theorem ret_bool {a b : Bool} (h : a = b) : Ending.returned (.bool a) = .returned (.bool b) := by rw [h]
set_option maxHeartbeats 1000000 in
theorem walk (a0 : Int) (a1 : Int) (a2 : Int) (a3 : Int) (a4 : Int) (w0 : (Lit.int .u32 a0).wf = true) (w1 : (Lit.int .u64 a1).wf = true) (w2 : (Lit.int .u32 a2).wf = true) (w3 : (Lit.int .u64 a3).wf = true) (w4 : (Lit.int .u64 a4).wf = true) (w : World) :
    Calls Try.prog 4 #[.int .u32 a0, .int .u64 a1, .int .u32 a2, .int .u64 a3, .int .u64 a4] w fun e w' => e = .returned (.bool true) ∧ Below w.heap.size w w' := by
  obtain ⟨c0, c1⟩ := u64_bd w4
  clear w0 w1 w2 w3 w4
  by_cases n0 : a1 < 1
  · go_enter Try.func4, Try.ntmps4
    go_wp2
    go_ret
    exact ⟨rfl, Below.refl _ _⟩
  by_cases n1 : 65536 < a1
  · go_enter Try.func4, Try.ntmps4
    go_wp2
    go_ret
    exact ⟨rfl, Below.refl _ _⟩
  by_cases m0 : a3 < 1
  · go_enter Try.func4, Try.ntmps4
    go_wp2
    go_ret
    exact ⟨rfl, Below.refl _ _⟩
  by_cases m1 : 65536 < a3
  · go_enter Try.func4, Try.ntmps4
    go_wp2
    go_ret
    exact ⟨rfl, Below.refl _ _⟩
  have n0' : 1 ≤ a1 := by omega
  have n1' : a1 ≤ 65536 := by omega
  have m0' : 1 ≤ a3 := by omega
  have m1' : a3 ≤ 65536 := by omega
  have q0 : 0 ≤ a4 % (a1 + a3) := Int.emod_nonneg _ (by omega)
  have q1 : a4 % (a1 + a3) < a1 + a3 := Int.emod_lt_of_pos _ (by omega)
  have hL : (a1 + a3 == 0) = false := beq_eq_false_iff_ne.2 (by omega)
  by_cases hF : isF a1 (a1 + a3) (a4 % (a1 + a3)) = true
  · have ht : Hid (tg a0 a1 a2 (a1 + a3) (a4 % (a1 + a3)) = a0) := by simp [Hid, tg, hF]
    go_enter Try.func4, Try.ntmps4
    go_wp2_with (first | (go_at_call 9; refine (spreadRot_any a0 a1 a2 a3 _ n0' n1' m0' m1').mono ?_; rintro e w1 ⟨rfl, g, cap, hr, hbel⟩; obtain ⟨r0, r2, hpl⟩ := hr) | (go_at_call 10; refine (zzAt_any _ g cap a0 a1 a2 a3 (a1 + a3) a4 _ hpl r0 r2 n0' n1' (by omega) (by omega) c0 c1).mono ?_; rintro e w2 ⟨rfl, k, rfl⟩) | (go_at_call 11; refine (first_any a1 a3 _ _ n0' n1' m0' m1' q0 q1).mono ?_; rintro e w3 ⟨rfl, rfl⟩))
    go_ret
    exact ⟨ret_bool (by rw [ht.out]; simp), Tab.below_drewN (by assumption) _⟩
  · have hF' : isF a1 (a1 + a3) (a4 % (a1 + a3)) = false := by simpa using hF
    have ht : Hid (tg a0 a1 a2 (a1 + a3) (a4 % (a1 + a3)) = a2) := by simp [Hid, tg, hF']
    clear hF
    go_enter Try.func4, Try.ntmps4
    go_wp2_with (first | (go_at_call 9; refine (spreadRot_any a0 a1 a2 a3 _ n0' n1' m0' m1').mono ?_; rintro e w1 ⟨rfl, g, cap, hr, hbel⟩; obtain ⟨r0, r2, hpl⟩ := hr) | (go_at_call 10; refine (zzAt_any _ g cap a0 a1 a2 a3 (a1 + a3) a4 _ hpl r0 r2 n0' n1' (by omega) (by omega) c0 c1).mono ?_; rintro e w2 ⟨rfl, k, rfl⟩) | (go_at_call 11; refine (first_any a1 a3 _ _ n0' n1' m0' m1' q0 q1).mono ?_; rintro e w3 ⟨rfl, rfl⟩))
    go_ret
    exact ⟨ret_bool (by rw [ht.out]; simp), Tab.below_drewN (by assumption) _⟩

/-! ### THE ROW's STEP: WRITTEN OUT: LEAVE IT -/
set_option maxRecDepth 100000 in
theorem lifted (os : Os) (started : os.Started) (H : Type) (enc : TypeId × Value → H) :
    ReturnsInHanded {} Try.checked os 4 .any (Rows.fnRotationAtSpreadOfTwoSpec.pre6 enc Try.prog Try.f4 Rows.fnRotationAtSpreadOfTwoRow.domain false) (Rows.fnRotationAtSpreadOfTwoSpec.post enc Try.prog Try.f4 false true false false) := by
  refine returnsInHanded_of_change (C := Try.checked) own started (by kernel_rfl) Try.func4
    (ChangeSpec.witness6 (enc := enc) (C := Try.checked) false ⟨#[], #[.int .u32 0, .int .u64 0, .int .u32 0, .int .u64 0, .int .u64 0], []⟩ 8 (by kernel_rfl) (by kernel_rfl) (by kernel_rfl) (by kernel_rfl)) ?_
  intro W base args ds gs before hval0 hW hcnd _
  have hval : ∀ (j : Nat) t v, Try.f4.params[j]? = some t → args[j]? = some v → Value.okWide Try.prog W .any base t v := hval0
  have hW' := hW
  obtain ⟨p, q, hA0, hV, rfl, hfz, hnd⟩ := hW
  have hA : DataW.TrodAll enc Try.prog W 0 (fun _ => true) true Try.f4.params.toList args.toList ds p := hA0
  rw [Try.params4] at hA hval
  obtain ⟨v0, vs0, d0, ds0, p0, q0, hargs, rfl, rfl, h0, r0⟩ := trodAll_cons hA
  obtain ⟨v1, vs1, d1, ds1, p1, q1, rfl, rfl, rfl, h1, r1⟩ := trodAll_cons r0
  obtain ⟨v2, vs2, d2, ds2, p2, q2, rfl, rfl, rfl, h2, r2⟩ := trodAll_cons r1
  obtain ⟨v3, vs3, d3, ds3, p3, q3, rfl, rfl, rfl, h3, r3⟩ := trodAll_cons r2
  obtain ⟨v4, vs4, d4, ds4, p4, q4, rfl, rfl, rfl, h4, r4⟩ := trodAll_cons r3
  obtain ⟨rfl, rfl, rfl⟩ := trodAll_nil r4
  obtain rfl : args = #[v0, v1, v2, v3, v4] := by cases args; simp_all
  obtain ⟨rfl, rfl⟩ := trodVars_none hV
  obtain ⟨a0, rfl, rfl, rfl, w0⟩ := open_int Try.underlying28 (hval 0 28 v0 rfl rfl) h0
  obtain ⟨a1, rfl, rfl, rfl, w1⟩ := open_int Try.underlying24 (hval 1 24 v1 rfl rfl) h1
  obtain ⟨a2, rfl, rfl, rfl, w2⟩ := open_int Try.underlying28 (hval 2 28 v2 rfl rfl) h2
  obtain ⟨a3, rfl, rfl, rfl, w3⟩ := open_int Try.underlying24 (hval 3 24 v3 rfl rfl) h3
  obtain ⟨a4, rfl, rfl, rfl, w4⟩ := open_int Try.underlying24 (hval 4 24 v4 rfl rfl) h4
  clear hA0 hval0
  refine (walk a0 a1 a2 a3 a4 w0 w1 w2 w3 w4 W).mono fun e W' ⟨he, hg⟩ => ?_
  subst he
  exact ⟨_, rfl, _, _, _, [], _, [], hW', trodAll_mk1 (shut_bool Try.underlying4 _), (trodAll_cons_mk (shut_int Try.underlying28 w0) (trodAll_cons_mk (shut_int Try.underlying24 w1) (trodAll_cons_mk (shut_int Try.underlying28 w2) (trodAll_cons_mk (shut_int Try.underlying24 w3) (trodAll_cons_mk (shut_int Try.underlying24 w4) trodAll_mk0))))), rfl, hg.frame _, fun h => by cases h⟩

theorem over : Rows.fnRotationAtSpreadOfTwoRow.holds Try.pinned (OpenSpec.ofChange Rows.fnRotationAtSpreadOfTwoSpec) :=
  OpenClaim.holds_of_wide 4 Try.f4 rfl rfl rfl rfl rfl rfl rfl ⟨rfl, rfl, rfl, rfl, rfl⟩ rfl rfl rfl rfl rfl (by kernel_rfl) Try.func4 (by kernel_rfl)
    (of_decide_eq_true (by kernel_rfl)) (by unfold Func.isWrapper; first | (rw [if_pos (by decide +kernel)]; kernel_rfl) | (rw [if_neg (by decide +kernel)]; exact ⟨rfl, rfl⟩))
    (fun os started H enc _ => lifted os started H enc)

/-- ████ THE STATEMENT ████ -/
theorem proved : Rows.FnRotationAtSpreadOfTwoSaid :=
  over
#print axioms proved
end Go.Proofs.Qxb6609388a.fnRotationAtSpreadOfTwo
