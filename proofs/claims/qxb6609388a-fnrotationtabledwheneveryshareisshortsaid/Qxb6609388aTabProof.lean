/-
  THE SHELL OF A PROOF OF 'Rows.FnRotationTabledWhenEveryShareIsShortSaid' ('example.com/evenkeel/evenkeel/zzlaws_root_b1.FnRotationTabledWhenEveryShareIsShort'), WRITTEN BY PROGRAM (proof-skeleton.mjs, third state) off the guide's own print for that function.
  The walk is ours; all else is the shell's.
-/
import Derived.Test.Qxb6609388aRows
import Derived.WalkKit
import Derived.ProofKit
import Derived.OpenShut
import Derived.ShutString
import Derived.ChangeOld
import Derived.Below
import Derived.Outline
import Derived.Test.Qxb6609388aTabPlain
import Derived.Test.Qxb6609388aTabWalks
namespace Go.Proofs.Qxb6609388a.fnRotationTabledWhenEveryShareIsShort
open Go.ChangeShapes Go.WideShapes Go.ChangeAt Go.RowKit
open Go.ChangeMaps (open_string shut_string)
set_option linter.unusedVariables false

theorem own : ownKnob Try.prog.godebug = none := by kernel_rfl
theorem laidOut : laidOutB Try.prog = true := by kernel_rfl

/-- WHAT THE WALK IS TOLD OF A SLICE OF INTEGERS THAT CAME IN: it is nil; or it leads to a row of 'cap' cells, the numbers 'zs' (the first 'len' are its elements, the rest its spare room), each fitting its kind. -/
def IsRow (k : IntKind) (w : World) (a : Option Addr) (len cap : Nat) (zs : List Int) : Prop :=
  (a = none ∧ len = 0 ∧ cap = 0 ∧ zs = []) ∨
  ∃ x, a = some x ∧ len ≤ cap ∧ cap ≤ maxLen ∧ zs.length = cap ∧ (∀ i, i < zs.length → w.cell? (x.add i) = some (.int k (zs.getD i 0))) ∧ ∀ n ∈ zs, (Lit.int k n).wf = true

/-! ### STEP 1: THE WALK -/
open TabPlain
theorem ret_bool {a b : Bool} (h : a = b) : Ending.returned (.bool a) = .returned (.bool b) := by rw [h]
theorem take_snoc (zs : List Int) (k : Nat) (h : k < zs.length) : zs.take (k + 1) = zs.take k ++ [zs.getD k 0] := by
  rw [List.take_succ_eq_append_getElem h, List.getD_eq_getElem?_getD, List.getElem?_eq_getElem h, Option.getD_some]
/-- WHAT HOLDS AHEAD OF ROUND k OF THE SECOND LOOP -/
def Sums (l : List Int) (p s : Int) (a b : Bool) : Prop := pl l = p ∧ sh l = s ∧ sm l = a ∧ lg l = b
theorem sums_zero {l : List Int} {p s : Int} {a b : Bool} (h : Sums l p s a b) : Sums (l ++ [0]) p s a b := by
  obtain ⟨rfl, rfl, rfl, rfl⟩ := h
  exact ⟨by rw [pl_snoc]; omega, sh_snoc_zero _, by rw [sm_snoc]; simp, by rw [lg_snoc]; simp⟩
theorem sums_big {l : List Int} {p s : Int} {a b : Bool} {x : Int} (h : Sums l p s a b) (hx : 128 < x) : Sums (l ++ [x]) (p + x) (s + 1) false b := by
  obtain ⟨rfl, rfl, rfl, rfl⟩ := h
  refine ⟨pl_snoc _ _, sh_snoc _ _ (by omega), ?_, ?_⟩
  · rw [sm_snoc, decide_eq_false (by omega)]; simp
  · rw [lg_snoc, decide_eq_true (show 128 < x from hx)]; simp
theorem sums_small {l : List Int} {p s : Int} {a b : Bool} {x : Int} (h : Sums l p s a b) (h0 : x ≠ 0) (hx : x ≤ 128) : Sums (l ++ [x]) (p + x) (s + 1) a false := by
  obtain ⟨rfl, rfl, rfl, rfl⟩ := h
  refine ⟨pl_snoc _ _, sh_snoc _ _ h0, ?_, ?_⟩
  · rw [sm_snoc, decide_eq_true hx]; simp
  · rw [lg_snoc, decide_eq_false (by omega : ¬ 128 < x), beq_eq_false_iff_ne.2 h0]; simp

set_option maxHeartbeats 2000000 in
theorem walk_core (a : Option Addr) (len cap : Nat) (zs : List Int) (w : World) (hl : len ≤ zs.length) (hm : len ≤ maxLen)
    (hc : ∀ i, i < len → ∃ b off, a = some ⟨b, off, none⟩ ∧ w.cell? ⟨b, off + i, none⟩ = some (.int .i64 (zs.getD i 0))) :
    Calls Try.prog 3 #[.slice a len cap] w fun e w' => e = .returned (.bool true) ∧ Below w.heap.size w w' := by
  unfold maxLen at hm
  have hc' : ∀ k, k < len → ∃ b off x, a = some ⟨b, off, none⟩ ∧ w.cell? ⟨b, off + k, none⟩ = some (.int .i64 x) ∧ Hid (zs.take (k + 1) = zs.take k ++ [x]) := by
    intro k hk
    obtain ⟨b, off, h1, h2⟩ := hc k hk
    exact ⟨b, off, _, h1, h2, take_snoc zs k (by omega)⟩
  have HC : Hid (∀ k, k < len → ∃ b off x, a = some ⟨b, off, none⟩ ∧ w.cell? ⟨b, off + k, none⟩ = some (.int .i64 x) ∧ Hid (zs.take (k + 1) = zs.take k ++ [x])) := hc'
  clear hc hc'
  by_cases hbig : len ≤ 65536
  · go_enter Try.func3, Try.ntmps3
    go_wp2
    go_loop [3] (fun i => ∃ k : Nat, k ≤ len ∧ i = .int .i64 k ∧ Hid (∀ x ∈ zs.take k, 0 ≤ x ∧ x ≤ 65536)) (fun i => len - (intOf i).toNat)
    case atStart => exact ⟨0, Nat.zero_le _, rfl, by intro x hx; simp at hx⟩
    case round =>
      obtain ⟨k, hk, rfl, hz⟩ := hrel
      by_cases hlt : k < len
      · obtain ⟨b, off, x, rfl, hcell, ht⟩ := HC.out k hlt
        by_cases hx0 : x < 0
        · go_wp2
          go_ret
          exact ⟨rfl, Below.refl _ _⟩
        · by_cases hx1 : 65536 < x
          · go_wp2
            go_ret
            exact ⟨rfl, Below.refl _ _⟩
          · go_wp2
            go_round
            case rel =>
              refine ⟨k + 1, by omega, by go_num, ?_⟩
              intro y hy
              rw [ht.out] at hy
              rcases List.mem_append.1 hy with h | h
              · exact hz.out y h
              · rw [List.mem_singleton.1 h]; omega
            case measure => simp [intOf]; omega
      · have hkl : k = len := by omega
        subst hkl
        go_wp2
        go_loop [4, 5, 6, 7, 8] (fun p s a b i => ∃ (n : Nat) (P S : Int) (A B : Bool), n ≤ k ∧ i = .int .i64 n ∧ p = .int .u64 P ∧ s = .int .i64 S ∧ a = .bool A ∧ b = .bool B ∧ 0 ≤ P ∧ P ≤ 65536 * n ∧ 0 ≤ S ∧ S ≤ n ∧ Sums (zs.take n) P S A B) (fun _ _ _ _ i => k - (intOf i).toNat)
        case atStart => exact ⟨0, 0, 0, true, true, Nat.zero_le _, rfl, rfl, rfl, rfl, rfl, by omega, by omega, by omega, by omega, by simp [Sums, pl, sh, sm, lg]⟩
        case round =>
          obtain ⟨n, P, S, A, B, hn, rfl, rfl, rfl, rfl, rfl, p0, p1, s0, s1, hsum⟩ := hrel
          by_cases hnk : n < k
          · obtain ⟨b, off, x, rfl, hcell, ht⟩ := HC.out n hnk
            have hxm : x ∈ zs.take k := by
              have h1 : x ∈ zs.take (n + 1) := by rw [ht.out]; simp
              exact List.take_subset_take_left zs (by omega) h1
            have hxb := hz.out x hxm
            clear hxm
            obtain ⟨hx0, hx1⟩ := hxb
            by_cases hxz : x = 0
            · subst hxz
              go_wp2
              go_round
              case rel => exact ⟨n + 1, P, S, A, B, by omega, by go_num, rfl, rfl, rfl, rfl, p0, by omega, s0, by omega, by rw [ht.out]; exact sums_zero hsum⟩
              case measure => simp [intOf]; omega
            · have hxz' : (x == 0) = false := beq_eq_false_iff_ne.2 hxz
              by_cases hx128 : 128 < x
              · go_wp2
                go_round
                case rel => exact ⟨n + 1, P + x, S + 1, false, B, by omega, by go_num, rfl, rfl, rfl, rfl, by omega, by omega, by omega, by omega, by rw [ht.out]; exact sums_big hsum hx128⟩
                case measure => simp [intOf]; omega
              · go_wp2
                go_round
                case rel => exact ⟨n + 1, P + x, S + 1, A, false, by omega, by go_num, rfl, rfl, rfl, rfl, by omega, by omega, by omega, by omega, by rw [ht.out]; exact sums_small hsum hxz (by omega)⟩
                case measure => simp [intOf]; omega
          · have hnk' : n = k := by omega
            subst hnk'
            have hall := hz.out
            obtain ⟨rfl, rfl, rfl, rfl⟩ := hsum
            have hsl := fun h => small_law (zs.take n) (fun x hx => (hall x hx).1) h
            have hll := large_law (zs.take n)
            have hsp := shares_pos (zs.take n)
            have hml := mean_law (pl (zs.take n)) (sh (zs.take n)) p0
            clear hall hz
            generalize pl (zs.take n) = P at *
            generalize sh (zs.take n) = S at *
            generalize sm (zs.take n) = A at *
            generalize lg (zs.take n) = B at *
            clear HC hm hl
            cases A
            · cases B
              · have hS : 0 < S := hsp rfl
                have hm' := hml hS
                clear hll hsl hsp hml
                have hS0 : (S == 0) = false := beq_eq_false_iff_ne.2 (by omega)
                by_cases h1 : P / S < 128
                · have hg : P ≤ 128 * S := hm'.2 (.inl h1)
                  clear hm'
                  go_wp2_with (first | (go_at_call 8; refine (Tab.zznew_any _ _ _).mono ?_; rintro e w' ⟨rfl, rfl⟩) | (go_at_call 7; refine (Tab.zztabled_any _ 0 P S _ (by go_simp) (by go_simp) (by omega) (by omega)).mono ?_; rintro e w' ⟨rfl, nq, rfl⟩))
                  go_ret
                  exact ⟨ret_bool (by simp), Tab.below_drewN ((Below.refl _ _).alloc (Nat.le_refl _) _) _⟩
                · have h1' : decide (P / S < 128) = false := decide_eq_false h1
                  by_cases h2 : P / S = 128
                  · have h2' : (P / S == 128) = true := beq_iff_eq.2 h2
                    have hg : decide (P ≤ 128 * S) = (P % S == 0) := by
                      rw [Bool.eq_iff_iff]
                      simp only [decide_eq_true_eq, beq_iff_eq]
                      rw [hm']
                      exact ⟨fun h => by rcases h with h | h
                                         · exact absurd h h1
                                         · exact h.2, fun h => .inr ⟨h2, h⟩⟩
                    have Hg : Hid (decide (P ≤ 128 * S) = (P % S == 0)) := hg
                    clear hm' hg h2 h1
                    go_wp2_with (first | (go_at_call 8; refine (Tab.zznew_any _ _ _).mono ?_; rintro e w' ⟨rfl, rfl⟩) | (go_at_call 7; refine (Tab.zztabled_any _ 0 P S _ (by go_simp) (by go_simp) (by omega) (by omega)).mono ?_; rintro e w' ⟨rfl, nq, rfl⟩))
                    go_ret
                    exact ⟨ret_bool (by simp [Hg.out]), Tab.below_drewN ((Below.refl _ _).alloc (Nat.le_refl _) _) _⟩
                  · have h2' : (P / S == 128) = false := beq_eq_false_iff_ne.2 h2
                    have hg : ¬ P ≤ 128 * S := fun h => by rcases hm'.1 h with h | h
                                                           · exact h1 h
                                                           · exact h2 h.1
                    clear hm' h2 h1
                    go_wp2_with (first | (go_at_call 8; refine (Tab.zznew_any _ _ _).mono ?_; rintro e w' ⟨rfl, rfl⟩) | (go_at_call 7; refine (Tab.zztabled_any _ 0 P S _ (by go_simp) (by go_simp) (by omega) (by omega)).mono ?_; rintro e w' ⟨rfl, nq, rfl⟩))
                    go_ret
                    exact ⟨ret_bool (by simp [hg]), Tab.below_drewN ((Below.refl _ _).alloc (Nat.le_refl _) _) _⟩
              · have hg : ¬ P ≤ 128 * S := by have := (hll rfl).2 rfl; omega
                clear hll hsl hsp hml
                go_wp2_with (first | (go_at_call 8; refine (Tab.zznew_any _ _ _).mono ?_; rintro e w' ⟨rfl, rfl⟩) | (go_at_call 7; refine (Tab.zztabled_any _ 0 P S _ (by go_simp) (by go_simp) (by omega) (by omega)).mono ?_; rintro e w' ⟨rfl, nq, rfl⟩))
                go_ret
                exact ⟨ret_bool (by simp [hg]), Tab.below_drewN ((Below.refl _ _).alloc (Nat.le_refl _) _) _⟩
            · have hg : P ≤ 128 * S := hsl rfl
              clear hll hsl hsp hml
              go_wp2_with (first | (go_at_call 8; refine (Tab.zznew_any _ _ _).mono ?_; rintro e w' ⟨rfl, rfl⟩) | (go_at_call 7; refine (Tab.zztabled_any _ 0 P S _ (by go_simp) (by go_simp) (by omega) (by omega)).mono ?_; rintro e w' ⟨rfl, nq, rfl⟩))
              go_ret
              exact ⟨ret_bool (by simp), Tab.below_drewN ((Below.refl _ _).alloc (Nat.le_refl _) _) _⟩
  · by_cases hbb : len ≤ 1048576
    · go_enter Try.func3, Try.ntmps3
      go_wp2
      go_ret
      exact ⟨rfl, Below.refl _ _⟩
    · go_enter Try.func3, Try.ntmps3
      go_wp2
      go_ret
      exact ⟨rfl, Below.refl _ _⟩
theorem walk (a0 : Option Addr) (len0 cap0 : Nat) (z0 : List Int) (w : World) (w0 : IsRow .i64 w a0 len0 cap0 z0) :
    Calls Try.prog 3 #[.slice a0 len0 cap0] w fun e w' => e = .returned (.bool true) ∧ Below w.heap.size w w' := by
  rcases w0 with ⟨rfl, rfl, rfl, rfl⟩ | ⟨x, rfl, hl, hm, hz, hcell, hwz⟩
  · exact walk_core none 0 0 [] w (by simp) (by simp [maxLen]) (fun i h => by omega)
  · refine walk_core (some x) len0 cap0 z0 w (by omega) (by omega) (fun i h => ?_)
    have hc0 := hcell i (by omega)
    obtain ⟨b, off, spot⟩ := x
    have hspot : spot = none := by simpa [Addr.add] using World.cell?_spot (hcell 0 (by omega))
    subst hspot
    exact ⟨b, off, rfl, by rw [← add_plain]; exact hc0⟩

/-! ### THE ROW's STEP: WRITTEN OUT: LEAVE IT -/
set_option maxRecDepth 100000 in
theorem lifted (os : Os) (started : os.Started) (H : Type) (enc : TypeId × Value → H) :
    ReturnsInHanded {} Try.checked os 3 .any (Rows.fnRotationTabledWhenEveryShareIsShortSpec.pre6 enc Try.prog Try.f3 Rows.fnRotationTabledWhenEveryShareIsShortRow.domain false) (Rows.fnRotationTabledWhenEveryShareIsShortSpec.post enc Try.prog Try.f3 false true false false) := by
  refine returnsInHanded_of_change (C := Try.checked) own started (by kernel_rfl) Try.func3
    (ChangeSpec.witness6 (enc := enc) (C := Try.checked) false ⟨#[], #[.slice none 0 0], []⟩ 8 (by kernel_rfl) (by kernel_rfl) (by kernel_rfl) (by kernel_rfl)) ?_
  intro W base args ds gs before hval0 hW hcnd _
  have hval : ∀ (j : Nat) t v, Try.f3.params[j]? = some t → args[j]? = some v → Value.okWide Try.prog W .any base t v := hval0
  have hW' := hW
  obtain ⟨p, q, hA0, hV, rfl, hfz, hnd⟩ := hW
  have hA : DataW.TrodAll enc Try.prog W 0 (fun _ => true) true Try.f3.params.toList args.toList ds p := hA0
  rw [Try.params3] at hA hval
  obtain ⟨v0, vs0, d0, ds0, p0, q0, hargs, rfl, rfl, h0, r0⟩ := trodAll_cons hA
  obtain ⟨rfl, rfl, rfl⟩ := trodAll_nil r0
  obtain rfl : args = #[v0] := by cases args; simp_all
  obtain ⟨rfl, rfl⟩ := trodVars_none hV
  obtain ⟨a0, len0, cap0, rfl⟩ := okWide_slice Try.underlying22 (hval 0 22 v0 rfl rfl)
  have k0 := h0
  have lt0 : ∀ x ∈ p0, x.block < W.heap.size := by obtain ⟨m, hm⟩ := k0; exact DataW.trod_lt m _ _ _ hm
  obtain ⟨z0, w0⟩ : ∃ zs, IsRow .i64 W a0 len0 cap0 zs := by
    obtain ⟨fuel, hf⟩ := h0
    rcases open_ints Try.underlying22 Try.underlying3 (by kernel_rfl) hf with ⟨hcs, _⟩ | ⟨x, l, c, zs, hcs, _, hl, hm, hz, _, hcell, hwz⟩
    · simp [Value.cells] at hcs
      obtain ⟨rfl, rfl, rfl⟩ := hcs
      exact ⟨[], .inl ⟨rfl, rfl, rfl, rfl⟩⟩
    · simp [Value.cells] at hcs
      obtain ⟨rfl, rfl, rfl⟩ := hcs
      exact ⟨zs, .inr ⟨_, rfl, hl, hm, by simpa using hz, hcell, hwz⟩⟩
  clear hA0 hval0
  refine (walk a0 len0 cap0 z0 W w0).mono fun e W' ⟨he, bel⟩ => ?_
  subst he
  exact ⟨_, rfl, _, _, _, [], _, [], hW', trodAll_mk1 (shut_bool Try.underlying4 _), (trodAll_cons_mk (Below.trod laidOut (by kernel_rfl) (of_decide_eq_true (by kernel_rfl)) k0 bel lt0) trodAll_mk0), rfl, bel.frame _, fun h => by cases h⟩

theorem over : Rows.fnRotationTabledWhenEveryShareIsShortRow.holds Try.pinned (OpenSpec.ofChange Rows.fnRotationTabledWhenEveryShareIsShortSpec) :=
  OpenClaim.holds_of_wide 3 Try.f3 rfl rfl rfl rfl rfl rfl rfl ⟨rfl, rfl, rfl, rfl, rfl⟩ rfl rfl rfl rfl rfl (by kernel_rfl) Try.func3 (by kernel_rfl)
    (of_decide_eq_true (by kernel_rfl)) (by unfold Func.isWrapper; first | (rw [if_pos (by decide +kernel)]; kernel_rfl) | (rw [if_neg (by decide +kernel)]; exact ⟨rfl, rfl⟩))
    (fun os started H enc _ => lifted os started H enc)

/-- ████ THE STATEMENT ████ -/
theorem proved : Rows.FnRotationTabledWhenEveryShareIsShortSaid := over
#print axioms proved
end Go.Proofs.Qxb6609388a.fnRotationTabledWhenEveryShareIsShort
