/-
  THE ROW of 'FnExtractsRepairOrderAndAppend', over the walk of Qxb6612196aExMain.lean. After the guide's shell for a law over slices ('Below').
-/
import Derived.Test.Qxb6612196aExMain
import Derived.OpenShut
import Derived.ShutString
import Derived.ChangeOld
import Derived.Deep.Strs
namespace Go.Proofs.Qxb6612196a.fnExtractsRepairOrderAndAppend
open Go.ChangeShapes Go.WideShapes Go.ChangeAt Go.RowKit Go.Deep Ex
open Go.ChangeMaps (open_string shut_string)
set_option linter.unusedVariables false

theorem own : ownKnob Try.prog.godebug = none := by kernel_rfl
theorem laidOut : laidOutB Try.prog = true := by kernel_rfl
theorem cells9 : Try.prog.cellsOf 9 = 1 := by kernel_rfl
theorem cells22 : Try.prog.cellsOf 22 = 1 := by kernel_rfl

/-- a list out of its elements, one by one -/
theorem list_of {α : Type} [Inhabited α] {n : Nat} {p : Nat → α → Prop} (h : ∀ i, i < n → ∃ x, p i x) : ∃ l : List α, l.length = n ∧ ∀ i (hi : i < l.length), p i l[i] := by
  obtain ⟨f, hf⟩ := choose_lt h
  exact ⟨(List.range n).map f, by simp, fun i hi => by simp at hi; simpa using hf i hi⟩

/-- A SLICE OF STRINGS THAT CAN BE READ: its strings, one behind the other. -/
theorem strs_row {H : Type} {enc : TypeId × Value → H} {W : World} {base fuel : Nat} {held : Bool} {v : Value} {x : DataW H × List MemPlace} (h : DataW.trod enc Try.prog W base (fun _ => true) held fuel 22 [v] = some x) :
    ∃ ai ci, ∃ ss : List ByteArray, v = .slice ai ss.length ci ∧ StrRow W ai ss ∧ ss.length ≤ maxLen ∧ (ai = none → ss.length = 0 ∧ ci = 0) := by
  rcases open_strs Try.underlying22 Try.underlying9 cells9 h with ⟨hcs, _⟩ | ⟨a, len, cap, m, Sx, hcs, _, hl, hm, hmm, _, hS⟩
  · obtain rfl : v = .slice none 0 0 := by simpa using hcs
    exact ⟨none, 0, [], rfl, fun i hi => absurd hi (by simp), by simp, fun _ => ⟨rfl, rfl⟩⟩
  · obtain rfl : v = .slice (some a) len cap := by simpa using hcs
    simp only [if_true] at hmm
    subst hmm
    refine ⟨some a, m, (List.range len).map Sx, by simp, fun i hi => ?_, by simp; omega, fun h => by cases h⟩
    have hi' : i < len := by simpa using hi
    have hc0 := (hS 0 (by omega)).1
    have hci := (hS i (by omega)).1
    obtain ⟨b, off, spot⟩ := a
    have hspot : spot = none := by simpa [Addr.add] using World.cell?_spot hc0
    subst hspot
    exact ⟨b, off, rfl, by rw [← add_plain]; simpa using hci⟩

theorem rows_row {H : Type} {enc : TypeId × Value → H} {W : World} {base fuel : Nat} {held : Bool} {v : Value} {x : DataW H × List MemPlace} (h : DataW.trod enc Try.prog W base (fun _ => true) held fuel 23 [v] = some x) :
    ∃ ai ci, ∃ rs : List (List ByteArray), v = .slice ai rs.length ci ∧ RowRow0 W ai rs ∧ rs.length ≤ maxLen := by
  rcases open_slice1 Try.underlying23 cells22 h with ⟨hcs, _⟩ | ⟨a, len, cap, m, n, V, D, Pl, hcs, _, hl, hm, hmm, _, hx⟩
  · obtain rfl : v = .slice none 0 0 := by simpa using hcs
    exact ⟨none, 0, [], rfl, fun i hi => absurd hi (by simp), by simp⟩
  · obtain rfl : v = .slice (some a) len cap := by simpa using hcs
    simp only [if_true] at hmm
    subst hmm
    obtain ⟨rs, hlen, hrs⟩ := list_of (α := List ByteArray) (n := len) (p := fun i ss => ∃ ai ci, V i = .slice ai ss.length ci ∧ StrRow W ai ss ∧ ss.length ≤ maxLen) (fun i hi => by
      obtain ⟨ai, ci, ss, h1, h2, h3, _⟩ := strs_row (hx i (by omega)).2
      exact ⟨ss, ai, ci, h1, h2, h3⟩)
    refine ⟨some a, m, rs, by rw [hlen], fun i hi => ?_, by omega⟩
    obtain ⟨ai, ci, h1, h2, h3⟩ := hrs i hi
    have hc0 := (hx 0 (by omega)).1
    have hci := (hx i (by omega)).1
    obtain ⟨b, off, spot⟩ := a
    have hspot : spot = none := by simpa [Addr.add] using World.cell?_spot hc0
    subst hspot
    exact ⟨b, off, ai, ci, rfl, by rw [← add_plain, hci, h1], h2, h3⟩

set_option maxRecDepth 100000 in
theorem lifted (os : Os) (started : os.Started) (H : Type) (enc : TypeId × Value → H) :
    ReturnsInHanded {} Try.checked os 3 .any (Rows.fnExtractsRepairOrderAndAppendSpec.pre6 enc Try.prog Try.f3 Rows.fnExtractsRepairOrderAndAppendRow.domain false) (Rows.fnExtractsRepairOrderAndAppendSpec.post enc Try.prog Try.f3 false true false false) := by
  refine returnsInHanded_of_change (C := Try.checked) own started (by kernel_rfl) Try.func3
    (ChangeSpec.witness6 (enc := enc) (C := Try.checked) false ⟨#[], #[.slice none 0 0, .slice none 0 0, .string ⟨#[]⟩], []⟩ 8 (by kernel_rfl) (by kernel_rfl) (by kernel_rfl) (by kernel_rfl)) ?_
  intro W base args ds gs before hval0 hW hcnd _
  have hval : ∀ (j : Nat) t v, Try.f3.params[j]? = some t → args[j]? = some v → Value.okWide Try.prog W .any base t v := hval0
  have hW' := hW
  obtain ⟨p, q, hA0, hV, rfl, hfz, hnd⟩ := hW
  have hA : DataW.TrodAll enc Try.prog W 0 (fun _ => true) true Try.f3.params.toList args.toList ds p := hA0
  rw [Try.params3] at hA hval
  obtain ⟨v0, vs0, d0, ds0, p0, q0, hargs, rfl, rfl, h0, r0⟩ := trodAll_cons hA
  obtain ⟨v1, vs1, d1, ds1, p1, q1, rfl, rfl, rfl, h1, r1⟩ := trodAll_cons r0
  obtain ⟨v2, vs2, d2, ds2, p2, q2, rfl, rfl, rfl, h2, r2⟩ := trodAll_cons r1
  obtain ⟨rfl, rfl, rfl⟩ := trodAll_nil r2
  obtain rfl : args = #[v0, v1, v2] := by cases args; simp_all
  obtain ⟨rfl, rfl⟩ := trodVars_none hV
  obtain ⟨a0, len0, cap0, rfl⟩ := okWide_slice Try.underlying22 (hval 0 22 v0 rfl rfl)
  obtain ⟨a1, len1, cap1, rfl⟩ := okWide_slice Try.underlying23 (hval 1 23 v1 rfl rfl)
  obtain ⟨s, rfl, rfl, rfl, hs⟩ := open_string Try.underlying9 (hval 2 9 v2 rfl rfl) h2
  have k0 := h0
  have lt0 : ∀ x ∈ p0, x.block < W.heap.size := by obtain ⟨m, hm⟩ := k0; exact DataW.trod_lt m _ _ _ hm
  have k1 := h1
  have lt1 : ∀ x ∈ p1, x.block < W.heap.size := by obtain ⟨m, hm⟩ := k1; exact DataW.trod_lt m _ _ _ hm
  obtain ⟨fuel0, hf0⟩ := h0
  obtain ⟨fuel1, hf1⟩ := h1
  obtain ⟨an, cn, ns, hv0, hsr, hnl, hnil⟩ := strs_row (by simpa [Value.cells] using hf0)
  obtain ⟨ar, cr, rs, hv1, hrr, hrl⟩ := rows_row (by simpa [Value.cells] using hf1)
  rw [hv0, hv1]
  rw [hv0] at k0
  rw [hv1] at k1
  clear hA0 hval0
  refine (main_core an ar cn cr ns rs s W hsr hrr hnl hrl hnil).mono fun e W' ⟨he, bel⟩ => ?_
  subst he
  rw [hv0, hv1] at hW'
  exact ⟨_, rfl, _, _, _, [], _, [], hW', trodAll_mk1 (shut_bool Try.underlying4 _), (trodAll_cons_mk (Below.trod laidOut (by kernel_rfl) (of_decide_eq_true (by kernel_rfl)) k0 bel lt0) (trodAll_cons_mk (Below.trod laidOut (by kernel_rfl) (of_decide_eq_true (by kernel_rfl)) k1 bel lt1) (trodAll_cons_mk (shut_string Try.underlying9 hs) trodAll_mk0))), rfl, bel.frame _, fun h => by cases h⟩

theorem over : Rows.fnExtractsRepairOrderAndAppendRow.holds Try.pinned (OpenSpec.ofChange Rows.fnExtractsRepairOrderAndAppendSpec) :=
  OpenClaim.holds_of_wide 3 Try.f3 rfl rfl rfl rfl rfl rfl rfl ⟨rfl, rfl, rfl, rfl, rfl⟩ rfl rfl rfl rfl rfl (by kernel_rfl) Try.func3 (by kernel_rfl)
    (of_decide_eq_true (by kernel_rfl)) (by unfold Func.isWrapper; first | (rw [if_pos (by decide +kernel)]; kernel_rfl) | (rw [if_neg (by decide +kernel)]; exact ⟨rfl, rfl⟩))
    (fun os started H enc _ => lifted os started H enc)

/-- ████ THE STATEMENT ████ -/
theorem proved : Rows.FnExtractsRepairOrderAndAppendSaid := over
#print axioms proved
end Go.Proofs.Qxb6612196a.fnExtractsRepairOrderAndAppend
