/-
  THE ROW of 'FnCloseTextEndsItsItemAndFlushesTheDonePrefix', over the walk of Qxb6612221aClMain.lean. After the guide's shell for a law over slices ('Below').
-/
import Derived.Test.Qxb6612221aClMain
import Derived.OpenShut
import Derived.ShutString
import Derived.ChangeOld
import Derived.Deep.Strs
namespace Go.Proofs.Qxb6612221a.fnCloseTextEndsItsItemAndFlushesTheDonePrefix
open Go.ChangeShapes Go.WideShapes Go.ChangeAt Go.RowKit Go.Deep Cl
open Go.ChangeMaps (open_string shut_string)
set_option linter.unusedVariables false

theorem own : ownKnob Try.prog.godebug = none := by kernel_rfl
theorem laidOut : laidOutB Try.prog = true := by kernel_rfl
theorem cells9 : Try.prog.cellsOf 9 = 1 := by kernel_rfl
theorem cells4 : Try.prog.cellsOf 4 = 1 := by kernel_rfl
theorem cells33 : Try.prog.cellsOf 33 = 3 := by kernel_rfl

instance : Inhabited Sl := ⟨⟨⟨#[]⟩, ⟨#[]⟩, false⟩⟩
/-- a list out of its elements, one by one -/
theorem list_of {α : Type} [Inhabited α] {n : Nat} {p : Nat → α → Prop} (h : ∀ i, i < n → ∃ x, p i x) : ∃ l : List α, l.length = n ∧ ∀ i (hi : i < l.length), p i l[i] := by
  obtain ⟨f, hf⟩ := choose_lt h
  exact ⟨(List.range n).map f, by simp, fun i hi => by simp at hi; simpa using hf i hi⟩

/-- A SLICE OF STRINGS THAT CAN BE READ: its strings, one behind the other. -/
theorem strs_row {H : Type} {enc : TypeId × Value → H} {W : World} {base fuel : Nat} {held : Bool} {v : Value} {x : DataW H × List MemPlace} (h : DataW.trod enc Try.prog W base (fun _ => true) held fuel 28 [v] = some x) :
    ∃ ai ci, ∃ ss : List ByteArray, v = .slice ai ss.length ci ∧ StrRow W ai ss ∧ ss.length ≤ maxLen := by
  rcases open_strs Try.underlying28 Try.underlying9 cells9 h with ⟨hcs, _⟩ | ⟨a, len, cap, m, Sx, hcs, _, hl, hm, hmm, _, hS⟩
  · obtain rfl : v = .slice none 0 0 := by simpa using hcs
    exact ⟨none, 0, [], rfl, fun i hi => absurd hi (by simp), by simp⟩
  · obtain rfl : v = .slice (some a) len cap := by simpa using hcs
    simp only [if_true] at hmm
    subst hmm
    refine ⟨some a, m, (List.range len).map Sx, by simp, fun i hi => ?_, by simp; omega⟩
    have hi' : i < len := by simpa using hi
    have hc0 := (hS 0 (by omega)).1
    have hci := (hS i (by omega)).1
    obtain ⟨b, off, spot⟩ := a
    have hspot : spot = none := by simpa [Addr.add] using World.cell?_spot hc0
    subst hspot
    exact ⟨b, off, rfl, by rw [← add_plain]; simpa using hci⟩
/-- three cells that can be read -/
theorem cells_three {W : World} {base : Nat} {a : Addr} {x y z : Value} (h : W.cells? base a 3 = some [x, y, z]) : W.cell? (a.add 0) = some x ∧ W.cell? (a.add 1) = some y ∧ W.cell? (a.add 2) = some z := by
  unfold World.cells? at h
  split at h
  · simp only [List.range_succ_eq_map, List.range_zero, List.map_cons, List.map_nil, List.mapM_cons, List.mapM_nil] at h
    cases h0 : W.cell? (a.add 0) with
    | none => simp [h0] at h
    | some v0 =>
      cases h1 : W.cell? (a.add 1) with
      | none => simp [h0, h1] at h
      | some v1 =>
        cases h2 : W.cell? (a.add 2) with
        | none => simp [h0, h1, h2] at h
        | some v2 =>
          simp [h0, h1, h2] at h
          exact ⟨by rw [h.1], by rw [h.2.1], by rw [h.2.2]⟩
  · cases h
theorem slots_row {H : Type} {enc : TypeId × Value → H} {W : World} {base fuel : Nat} {held : Bool} {v : Value} {x : DataW H × List MemPlace} (h : DataW.trod enc Try.prog W base (fun _ => true) held fuel 29 [v] = some x) :
    ∃ ai ci, ∃ os : List Sl, v = .slice ai os.length ci ∧ SlotRow W ai os ∧ os.length ≤ maxLen := by
  rcases open_slice Try.underlying29 h with ⟨hcs, _⟩ | ⟨a, len, cap, m, n, D, Pl, hcs, _, hl, hm, hmm, _, hx⟩
  · obtain rfl : v = .slice none 0 0 := by simpa using hcs
    exact ⟨none, 0, [], rfl, fun i hi => absurd hi (by simp), by simp⟩
  · obtain rfl : v = .slice (some a) len cap := by simpa using hcs
    simp only [if_true] at hmm
    subst hmm
    rw [cells33] at hx
    obtain ⟨os, hlen, hos⟩ := list_of (α := Sl) (n := len) (p := fun i s => W.cell? ((a.add (i * 3)).add 0) = some (.string s.id) ∧ W.cell? ((a.add (i * 3)).add 1) = some (.string s.ty) ∧ W.cell? ((a.add (i * 3)).add 2) = some (.bool s.dn)) (fun i hi => by
      obtain ⟨cs, hc, ht⟩ := hx i (by omega)
      obtain ⟨y0, y1, y2, n', _, hl3, t0, t1, t2⟩ := trod_struct3 Try.underlying33 ht
      dsimp only at t0 t1 t2
      rw [cells9] at t0 t1
      rw [cells4] at t2
      rw [cells33] at hl3
      match cs, hl3 with
      | [u0, u1, u2], _ =>
        obtain ⟨s0, e0, _, _⟩ := DataW.trod_string Try.underlying9 t0
        obtain ⟨s1, e1, _, _⟩ := DataW.trod_string Try.underlying9 t1
        obtain ⟨s2, e2, _⟩ := DataW.trod_bool Try.underlying4 t2
        simp at e0 e1 e2
        subst e0 e1 e2
        exact ⟨⟨s0, s1, s2⟩, cells_three hc⟩)
    refine ⟨some a, m, os, by rw [hlen], fun i hi => ?_, by omega⟩
    obtain ⟨p0, p1, p2⟩ := hos i hi
    have hz := (hos 0 (by omega)).1
    obtain ⟨b, off, spot⟩ := a
    have hspot : spot = none := by simpa [Addr.add] using World.cell?_spot hz
    subst hspot
    simp only [add_plain] at p0 p1 p2
    exact ⟨b, off, rfl, by simpa using p0, p1, p2⟩

set_option maxRecDepth 100000 in
theorem lifted (os : Os) (started : os.Started) (H : Type) (enc : TypeId × Value → H) :
    ReturnsInHanded {} Try.checked os 5 .any (Rows.fnCloseTextEndsItsItemAndFlushesTheDonePrefixSpec.pre6 enc Try.prog Try.f5 Rows.fnCloseTextEndsItsItemAndFlushesTheDonePrefixRow.domain false) (Rows.fnCloseTextEndsItsItemAndFlushesTheDonePrefixSpec.post enc Try.prog Try.f5 false true false false) := by
  refine returnsInHanded_of_change (C := Try.checked) own started (by kernel_rfl) Try.func5
    (ChangeSpec.witness6 (enc := enc) (C := Try.checked) false ⟨#[], #[.slice none 0 0, .slice none 0 0, .int .i64 0, .string ⟨#[]⟩, .bool false, .bool false, .int .i64 0, .string ⟨#[]⟩, .string ⟨#[]⟩], []⟩ 8 (by kernel_rfl) (by kernel_rfl) (by kernel_rfl) (by kernel_rfl)) ?_
  intro W base args ds gs before hval0 hW hcnd _
  have hval : ∀ (j : Nat) t v, Try.f5.params[j]? = some t → args[j]? = some v → Value.okWide Try.prog W .any base t v := hval0
  have hW' := hW
  obtain ⟨p, q, hA0, hV, rfl, hfz, hnd⟩ := hW
  have hA : DataW.TrodAll enc Try.prog W 0 (fun _ => true) true Try.f5.params.toList args.toList ds p := hA0
  rw [Try.params5] at hA hval
  obtain ⟨v0, vs0, d0, ds0, p0, q0, hargs, rfl, rfl, h0, r0⟩ := trodAll_cons hA
  obtain ⟨v1, vs1, d1, ds1, p1, q1, rfl, rfl, rfl, h1, r1⟩ := trodAll_cons r0
  obtain ⟨v2, vs2, d2, ds2, p2, q2, rfl, rfl, rfl, h2, r2⟩ := trodAll_cons r1
  obtain ⟨v3, vs3, d3, ds3, p3, q3, rfl, rfl, rfl, h3, r3⟩ := trodAll_cons r2
  obtain ⟨v4, vs4, d4, ds4, p4, q4, rfl, rfl, rfl, h4, r4⟩ := trodAll_cons r3
  obtain ⟨v5, vs5, d5, ds5, p5, q5, rfl, rfl, rfl, h5, r5⟩ := trodAll_cons r4
  obtain ⟨v6, vs6, d6, ds6, p6, q6, rfl, rfl, rfl, h6, r6⟩ := trodAll_cons r5
  obtain ⟨v7, vs7, d7, ds7, p7, q7, rfl, rfl, rfl, h7, r7⟩ := trodAll_cons r6
  obtain ⟨v8, vs8, d8, ds8, p8, q8, rfl, rfl, rfl, h8, r8⟩ := trodAll_cons r7
  obtain ⟨rfl, rfl, rfl⟩ := trodAll_nil r8
  obtain rfl : args = #[v0, v1, v2, v3, v4, v5, v6, v7, v8] := by cases args; simp_all
  obtain ⟨rfl, rfl⟩ := trodVars_none hV
  obtain ⟨a0, len0, cap0, rfl⟩ := okWide_slice Try.underlying28 (hval 0 28 v0 rfl rfl)
  obtain ⟨a1, len1, cap1, rfl⟩ := okWide_slice Try.underlying29 (hval 1 29 v1 rfl rfl)
  obtain ⟨j, rfl, rfl, rfl, w2⟩ := open_int Try.underlying3 (hval 2 3 v2 rfl rfl) h2
  obtain ⟨s3, rfl, rfl, rfl, hs3⟩ := open_string Try.underlying9 (hval 3 9 v3 rfl rfl) h3
  obtain ⟨b4, rfl, rfl, rfl⟩ := open_bool Try.underlying4 (hval 4 4 v4 rfl rfl) h4
  obtain ⟨b5, rfl, rfl, rfl⟩ := open_bool Try.underlying4 (hval 5 4 v5 rfl rfl) h5
  obtain ⟨nx, rfl, rfl, rfl, w6⟩ := open_int Try.underlying3 (hval 6 3 v6 rfl rfl) h6
  obtain ⟨s7, rfl, rfl, rfl, hs7⟩ := open_string Try.underlying9 (hval 7 9 v7 rfl rfl) h7
  obtain ⟨s8, rfl, rfl, rfl, hs8⟩ := open_string Try.underlying9 (hval 8 9 v8 rfl rfl) h8
  have k0 := h0
  have lt0 : ∀ x ∈ p0, x.block < W.heap.size := by obtain ⟨m, hm⟩ := k0; exact DataW.trod_lt m _ _ _ hm
  have k1 := h1
  have lt1 : ∀ x ∈ p1, x.block < W.heap.size := by obtain ⟨m, hm⟩ := k1; exact DataW.trod_lt m _ _ _ hm
  obtain ⟨fuel0, hf0⟩ := h0
  obtain ⟨fuel1, hf1⟩ := h1
  obtain ⟨an, cn, ns, hv0, hsr, hnl⟩ := strs_row (by simpa [Value.cells] using hf0)
  obtain ⟨ar, cr, rs, hv1, hrr, hrl⟩ := slots_row (by simpa [Value.cells] using hf1)
  rw [hv0, hv1]
  rw [hv0] at k0
  rw [hv1] at k1
  clear hA0 hval0
  refine (main_any an ar cn cr ns rs j nx s3 s7 s8 b4 b5 W hsr hrr hnl hrl).mono fun e W' ⟨he, bel⟩ => ?_
  subst he
  rw [hv0, hv1] at hW'
  exact ⟨_, rfl, _, _, _, [], _, [], hW', trodAll_mk1 (shut_bool Try.underlying4 _), (trodAll_cons_mk (Below.trod laidOut (by kernel_rfl) (of_decide_eq_true (by kernel_rfl)) k0 bel lt0) (trodAll_cons_mk (Below.trod laidOut (by kernel_rfl) (of_decide_eq_true (by kernel_rfl)) k1 bel lt1) (trodAll_cons_mk (shut_int Try.underlying3 w2) (trodAll_cons_mk (shut_string Try.underlying9 hs3) (trodAll_cons_mk (shut_bool Try.underlying4 _) (trodAll_cons_mk (shut_bool Try.underlying4 _) (trodAll_cons_mk (shut_int Try.underlying3 w6) (trodAll_cons_mk (shut_string Try.underlying9 hs7) (trodAll_cons_mk (shut_string Try.underlying9 hs8) trodAll_mk0))))))))), rfl, bel.frame _, fun h => by cases h⟩

theorem over : Rows.fnCloseTextEndsItsItemAndFlushesTheDonePrefixRow.holds Try.pinned (OpenSpec.ofChange Rows.fnCloseTextEndsItsItemAndFlushesTheDonePrefixSpec) :=
  OpenClaim.holds_of_wide 5 Try.f5 rfl rfl rfl rfl rfl rfl rfl ⟨rfl, rfl, rfl, rfl, rfl⟩ rfl rfl rfl rfl rfl (by kernel_rfl) Try.func5 (by kernel_rfl)
    (of_decide_eq_true (by kernel_rfl)) (by unfold Func.isWrapper; first | (rw [if_pos (by decide +kernel)]; kernel_rfl) | (rw [if_neg (by decide +kernel)]; exact ⟨rfl, rfl⟩))
    (fun os started H enc _ => lifted os started H enc)

/-- ████ THE STATEMENT ████ -/
theorem proved : Rows.FnCloseTextEndsItsItemAndFlushesTheDonePrefixSaid := over
#print axioms proved
end Go.Proofs.Qxb6612221a.fnCloseTextEndsItsItemAndFlushesTheDonePrefix
