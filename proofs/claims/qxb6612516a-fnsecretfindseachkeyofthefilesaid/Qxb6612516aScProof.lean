/-
  THE ROW of 'FnSecretFindsEachKeyOfTheFile', over the walk of Qxb6612516aScMain.lean. After the guide's shell for a law over slices ('Below').
-/
import Derived.Test.Qxb6612516aScMain
import Derived.OpenShut
import Derived.ShutString
import Derived.ChangeOld
import Derived.Deep.SlicePairs
namespace Go.Proofs.Qxb6612516a.fnSecretFindsEachKeyOfTheFile
open Go.ChangeShapes Go.WideShapes Go.ChangeAt Go.RowKit Go.Deep Sc
open Go.ChangeMaps (open_string shut_string)
set_option linter.unusedVariables false

theorem own : ownKnob Try.prog.godebug = none := by kernel_rfl
theorem laidOut : laidOutB Try.prog = true := by kernel_rfl
theorem cells27 : Try.prog.cellsOf 27 = 2 := by kernel_rfl
theorem cells9 : Try.prog.cellsOf 9 = 1 := by kernel_rfl
theorem cells25 : Try.prog.cellsOf 25 = 1 := by kernel_rfl
theorem cells5 : Try.prog.cellsOf 5 = 1 := by kernel_rfl

/-- a list out of its elements, one by one -/
theorem list_of {α : Type} [Inhabited α] {n : Nat} {p : Nat → α → Prop} (h : ∀ i, i < n → ∃ x, p i x) : ∃ l : List α, l.length = n ∧ ∀ i (hi : i < l.length), p i l[i] := by
  obtain ⟨f, hf⟩ := choose_lt h
  exact ⟨(List.range n).map f, by simp, fun i hi => by simp at hi; simpa using hf i hi⟩

/-- A []byte THAT CAN BE READ. -/
theorem bytes_row {H : Type} {enc : TypeId × Value → H} {W : World} {base fuel : Nat} {held : Bool} {v : Value} {x : DataW H × List MemPlace} (h : DataW.trod enc Try.prog W base (fun _ => true) held fuel 25 [v] = some x) :
    ∃ sa sl sc, v = .slice sa sl sc ∧ BytesRow W sa sl ∧ sl ≤ maxLen := by
  rcases open_ints Try.underlying25 Try.underlying5 cells5 h with ⟨hcs, _⟩ | ⟨a, len, cap, zs, hcs, _, hl, hm, hz, _, hcell, _⟩
  · obtain rfl : v = .slice none 0 0 := by simpa using hcs
    exact ⟨none, 0, 0, rfl, fun i hi => absurd hi (by omega), by simp⟩
  · obtain rfl : v = .slice (some a) len cap := by simpa using hcs
    simp only [if_true] at hz
    refine ⟨some a, len, cap, rfl, fun i hi => ?_, by omega⟩
    have hc0 := hcell 0 (by omega)
    have hci := hcell i (by omega)
    obtain ⟨b, off, spot⟩ := a
    have hspot : spot = none := by simpa [Addr.add] using World.cell?_spot hc0
    subst hspot
    exact ⟨b, off, _, rfl, by rw [← add_plain]; exact hci⟩

theorem keys_row {H : Type} {enc : TypeId × Value → H} {W : World} {base fuel : Nat} {held : Bool} {v : Value} {x : DataW H × List MemPlace} (h : DataW.trod enc Try.prog W base (fun _ => true) held fuel 22 [v] = some x) :
    ∃ ao cap, ∃ ks : List Kd, v = .slice ao ks.length cap ∧ KeyRow W ao ks ∧ (∀ i (h : i < ks.length), BytesRow W ks[i].sa ks[i].sl ∧ ks[i].sl ≤ maxLen) ∧ ks.length ≤ maxLen := by
  rcases open_slice_pairs Try.underlying22 Try.underlying27 cells27 rfl rfl cells9 cells25 h with ⟨hcs, _⟩ | ⟨a, len, cap, m, n, V0, V1, D0, D1, P0, P1, hcs, _, hl, hm, hmm, _, hx⟩
  · obtain rfl : v = .slice none 0 0 := by simpa using hcs
    exact ⟨none, 0, [], rfl, fun i hi => absurd hi (by simp), fun i hi => absurd hi (by simp), by simp⟩
  · obtain rfl : v = .slice (some a) len cap := by simpa using hcs
    simp only [if_true] at hmm
    subst hmm
    have : Inhabited Kd := ⟨⟨ByteArray.empty, none, 0, 0⟩⟩
    obtain ⟨ks, hlen, hks⟩ := list_of (α := Kd) (n := len) (p := fun i d => V0 i = .string d.id ∧ V1 i = .slice d.sa d.sl d.sc ∧ BytesRow W d.sa d.sl ∧ d.sl ≤ maxLen) (fun i hi => by
      obtain ⟨_, _, t0, t1⟩ := hx i (by omega)
      obtain ⟨s, e0, _, _⟩ := DataW.trod_string Try.underlying9 t0
      obtain ⟨sa, sl, sc, e1, h1, h2⟩ := bytes_row t1
      exact ⟨⟨s, sa, sl, sc⟩, by simpa using e0, e1, h1, h2⟩)
    refine ⟨some a, m, ks, by rw [hlen], fun i hi => ?_, fun i hi => (hks i hi).2.2, by omega⟩
    obtain ⟨e0, e1, _, _⟩ := hks i hi
    have hc0 := (hx 0 (by omega)).1
    obtain ⟨hci, hdi, _, _⟩ := hx i (by omega)
    obtain ⟨b, off, spot⟩ := a
    have hspot : spot = none := by simpa [Addr.add] using World.cell?_spot hc0
    subst hspot
    refine ⟨b, off, rfl, by rw [← add_plain, hci, e0], ?_⟩
    rw [Nat.add_assoc, ← add_plain, hdi, e1]

set_option maxRecDepth 100000 in
theorem lifted (os : Os) (started : os.Started) (H : Type) (enc : TypeId × Value → H) :
    ReturnsInHanded {} Try.checked os 3 .any (Rows.fnSecretFindsEachKeyOfTheFileSpec.pre6 enc Try.prog Try.f3 Rows.fnSecretFindsEachKeyOfTheFileRow.domain false) (Rows.fnSecretFindsEachKeyOfTheFileSpec.post enc Try.prog Try.f3 false true false false) := by
  refine returnsInHanded_of_change (C := Try.checked) own started (by kernel_rfl) Try.func3
    (ChangeSpec.witness6 (enc := enc) (C := Try.checked) false ⟨#[], #[.slice none 0 0, .string ⟨#[]⟩], []⟩ 8 (by kernel_rfl) (by kernel_rfl) (by kernel_rfl) (by kernel_rfl)) ?_
  intro W base args ds gs before hval0 hW hcnd _
  have hval : ∀ (j : Nat) t v, Try.f3.params[j]? = some t → args[j]? = some v → Value.okWide Try.prog W .any base t v := hval0
  have hW' := hW
  obtain ⟨p, q, hA0, hV, rfl, hfz, hnd⟩ := hW
  have hA : DataW.TrodAll enc Try.prog W 0 (fun _ => true) true Try.f3.params.toList args.toList ds p := hA0
  rw [Try.params3] at hA hval
  obtain ⟨v0, vs0, d0, ds0, p0, q0, hargs, rfl, rfl, h0, r0⟩ := trodAll_cons hA
  obtain ⟨v1, vs1, d1, ds1, p1, q1, rfl, rfl, rfl, h1, r1⟩ := trodAll_cons r0
  obtain ⟨rfl, rfl, rfl⟩ := trodAll_nil r1
  obtain rfl : args = #[v0, v1] := by cases args; simp_all
  obtain ⟨rfl, rfl⟩ := trodVars_none hV
  obtain ⟨a0, len0, cap0, rfl⟩ := okWide_slice Try.underlying22 (hval 0 22 v0 rfl rfl)
  obtain ⟨s, rfl, rfl, rfl, hs⟩ := open_string Try.underlying9 (hval 1 9 v1 rfl rfl) h1
  have k0 := h0
  have lt0 : ∀ x ∈ p0, x.block < W.heap.size := by obtain ⟨m, hm⟩ := k0; exact DataW.trod_lt m _ _ _ hm
  obtain ⟨fuel0, hf0⟩ := h0
  obtain ⟨ao, cap, ks, hv0, hkr, hbr, hkl⟩ := keys_row (by simpa [Value.cells] using hf0)
  rw [hv0]
  rw [hv0] at k0
  clear hA0 hval0
  refine (main_core ao cap ks s W hkr hbr hkl).mono fun e W' ⟨he, bel⟩ => ?_
  subst he
  rw [hv0] at hW'
  exact ⟨_, rfl, _, _, _, [], _, [], hW', trodAll_mk1 (shut_bool Try.underlying4 _), (trodAll_cons_mk (Below.trod laidOut (by kernel_rfl) (of_decide_eq_true (by kernel_rfl)) k0 bel lt0) (trodAll_cons_mk (shut_string Try.underlying9 hs) trodAll_mk0)), rfl, bel.frame _, fun h => by cases h⟩

theorem over : Rows.fnSecretFindsEachKeyOfTheFileRow.holds Try.pinned (OpenSpec.ofChange Rows.fnSecretFindsEachKeyOfTheFileSpec) :=
  OpenClaim.holds_of_wide 3 Try.f3 rfl rfl rfl rfl rfl rfl rfl ⟨rfl, rfl, rfl, rfl, rfl⟩ rfl rfl rfl rfl rfl (by kernel_rfl) Try.func3 (by kernel_rfl)
    (of_decide_eq_true (by kernel_rfl)) (by unfold Func.isWrapper; first | (rw [if_pos (by decide +kernel)]; kernel_rfl) | (rw [if_neg (by decide +kernel)]; exact ⟨rfl, rfl⟩))
    (fun os started H enc _ => lifted os started H enc)

/-- ████ THE STATEMENT ████ -/
theorem proved : Rows.FnSecretFindsEachKeyOfTheFileSaid := over
#print axioms proved
end Go.Proofs.Qxb6612516a.fnSecretFindsEachKeyOfTheFile
