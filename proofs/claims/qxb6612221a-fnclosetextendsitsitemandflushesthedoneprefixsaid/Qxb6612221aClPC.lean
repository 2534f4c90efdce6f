/- The law's function: the run, its text, and closeText. -/
import Derived.Test.Qxb6612221aClJ
namespace Go.Proofs.Qxb6612221a.Cl
open Go.RowKit
attribute [local go_sem ↓] Go.wp_at_zero Go.wp_at_succ
theorem close16_any (B0 : Nat) (sm pt : Bool) (rB pB lB sB tB kB g cap m j : Nat) (is : List Nd) (nd : Nd) (hj : j < is.length) (hnd : nd = is[j]) (nx : Int) (kd tx status : ByteArray) (vl vo : Value) (ys : List Value) (w : World)
    (h : St B0 sm rB pB lB sB tB kB g cap m is kd pt (some ⟨nd.b, 0, none⟩) vo ys nx vl 0 [] w) (hap : ∀ i (h : i < is.length), i ≠ j → is[i].b ≠ is[j].b) (hcap : is.length ≤ cap) (hm : m + is.length ≤ 2097152)
    (b1 : B0 ≤ rB) (b2 : B0 ≤ lB) (b3 : B0 ≤ tB) (b4 : B0 ≤ sB) (b5 : B0 ≤ nd.b) :
    Calls Try.prog 16 #[.pointer (some ⟨rB, 0, none⟩), .pointer (some ⟨tB, 0, none⟩), .string tx, .string status] w fun e w' => e = .returned (.tuple #[]) ∧ CloseSay B0 sm pt rB pB lB sB tB kB g cap m j is nd nx kd tx status vo ys w w' := by
  have HS : Hid (St B0 sm rB pB lB sB tB kB g cap m is kd pt (some ⟨nd.b, 0, none⟩) vo ys nx vl 0 [] w) := h
  clear h
  go_enter Try.func16, Try.ntmps16
  go_wp2_with fail
  refine (close_any B0 sm pt rB pB lB sB tB kB g cap m j is nd hj hnd nx kd tx status vl vo ys w HS.out hap hcap hm b1 b2 b3 b4 b5).mono ?_
  rintro e w1 ⟨rfl, hC⟩
  have HC : Hid (CloseSay B0 sm pt rB pB lB sB tB kB g cap m j is nd nx kd tx status vo ys w w1) := hC
  clear hC
  go_wp2
  exact ⟨rfl, .tuple #[], by simp [results, Try.results16, go_sem], rfl, HC.out⟩
theorem cell_al {w : World} {a : Addr} {v : Value} (o : Obj) (h : w.cell? a = some v) : (w.alloc o).cell? a = some v := cell_below ((Below.refl _ _).alloc (Nat.le_refl _) o) h
theorem newRun_at (sm : Bool) (sB lB n c : Nat) (ao : Option Addr) (nx : Int) (w : World) (N : Nat) (hN : w.heap.size = N) (pl : Option Addr) (hpl : (if sm = true then some ⟨lB, 0, none⟩ else none) = pl) :
    Calls Try.prog 13 #[.pointer (some ⟨sB, 0, none⟩), .int .i64 nx, .slice ao n c, .pointer pl] w fun e w' => e = .returned (.pointer (some ⟨N + 1, 0, none⟩)) ∧
      w' = (w.alloc (.cells #[.pointer (if sm = true then some ⟨lB, 0, none⟩ else none)] 44)).alloc (.cells (runCells sB (sendOf sm N) nx (.slice ao n c)) 103) := by
  subst hN
  subst hpl
  exact newRun_any sm sB lB n c ao nx w
theorem below_al {w W : World} (h : Below w.heap.size w W) (o : Obj) : Below w.heap.size w (W.alloc o) := h.alloc h.size o
theorem al6 (w w1 : World) (o1 o2 o3 o4 o5 o6 : Obj) (W : World) (hw1 : w1 = (((w.alloc o1).alloc o2).alloc o3).alloc o4) (hW : W = ((w1.alloc o5).alloc o6).drew) :
    W.heap[w.heap.size]? = some o1 ∧ W.heap[w.heap.size + 1]? = some o2 ∧ W.heap[w.heap.size + 2]? = some o3 ∧ W.heap[w.heap.size + 3]? = some o4 ∧ W.heap[w.heap.size + 4]? = some o5 ∧ W.heap[w.heap.size + 5]? = some o6 ∧ Below w.heap.size w W := by
  have hb : Below w.heap.size w W := by
    rw [hW, hw1]
    exact below_drewN (below_al (below_al (below_al (below_al (below_al (below_al (Below.refl _ _) o1) o2) o3) o4) o5) o6) 1
  have hh : W.heap = (((((w.heap.push o1).push o2).push o3).push o4).push o5).push o6 := by rw [hW, hw1]; rfl
  rw [hh]
  refine ⟨?_, ?_, ?_, ?_, ?_, ?_, hb⟩ <;> (simp only [Array.getElem?_push, Array.size_push]; repeat (first | rw [if_neg (by omega)] | rw [if_pos trivial] | rw [if_pos (by omega)]))
theorem St_start (w0 w w1 W : World) (sm pt : Bool) (ss : List ByteArray) (os : List Sl) (is : List Nd) (g cap : Nat) (vo : Value) (kd : ByteArray) (nx : Int) (ip : Option Addr) (rc : Array Value) (hrc : rc[9]? = some vo) (hb : Below w0.heap.size w0 w) (hown : w.ownsRow w0.heap.size 37 11 vo ss.length (outs ss)) (hrow : w.ownsRow w0.heap.size 40 1 (.slice (some ⟨g, 0, none⟩) os.length cap) os.length (ptrs is)) (hlen : is.length = os.length)
    (hitem : ∀ i (h : i < is.length), w0.heap.size ≤ is[i].b ∧ w.heap[is[i].b]? = some (.cells is[i].cells 94 (0, 0)))
    (hw1 : w1 = (((w.alloc (.cells #[.slice none 0 0] 43)).alloc (.cells rc 67)).alloc (.cells #[.pointer (if sm = true then some ⟨w.heap.size, 0, none⟩ else none)] 44)).alloc (.cells (runCells (w.heap.size + 1) (sendOf sm (w.heap.size + 2)) nx (.slice (some ⟨g, 0, none⟩) os.length cap)) 103)) (hW : W = ((w1.alloc (.cells (kindCells kd pt) 107)).alloc (.cells (textCells (w.heap.size + 4) ip) 100)).drew) :
    St w0.heap.size sm (w.heap.size + 3) (w.heap.size + 2) w.heap.size (w.heap.size + 1) (w.heap.size + 5) (w.heap.size + 4) g cap ss.length is kd pt ip vo (outs ss) nx (.slice none 0 0) 0 [] W ∧ Below w0.heap.size w0 W := by
  obtain ⟨h1, h2, h3, h4, h5, h6, hB⟩ := al6 w w1 _ _ _ _ _ _ W hw1 hW
  have hs := hb.size
  have hK := Kept.ofBelow hB
  have hsh : Shuns (fun _ => False) w (fun _ => True) := fun _ _ _ _ _ h => h
  refine ⟨?_, hb.trans (hB.mono hs)⟩
  refine ⟨⟨by rw [hlen]; exact h4, h3, h1, ⟨rfl, .inl ⟨rfl, rfl⟩⟩, by have := hB.size; omega, fun _ => rfl⟩, ⟨?_, fun i h => (hB.block _ (lt_of_look (hitem i h).2)).trans (hitem i h).2⟩, ⟨rc, h2, hrc⟩, row_kept hown hK hsh trivial, h5, h6⟩
  have hr := row_kept hrow hK hsh trivial
  rcases hr.2 with ⟨h, _⟩ | ⟨g', cap', cur, e, _, hg, h7, _, h8, h9⟩
  · cases h
  · have : g' = g := by simp at e; exact e.1.symm
    subst this
    refine ⟨cur, hg, fun i h => ?_⟩
    have h10 : (cur.toList.take (os.length * 1))[i]? = (ptrs is)[i]? := by rw [h9]
    rw [List.getElem?_take_of_lt (by omega)] at h10
    simpa [ptrs, h] using h10
theorem closed_of {base : Nat} {os : List Sl} {is : List Nd} {j k a cap : Nat} {st tx : ByteArray} {nd : Nd} (hm : Made base os is) (hlen : is.length = os.length) (hj : j < is.length) (hnd : nd = is[j]) (kle : k ≤ (is.set j ⟨nd.b, nd.ty, nd.id, st, tx, nd.ix, true⟩).length)
    (pre : ∀ i (h : i < (is.set j ⟨nd.b, nd.ty, nd.id, st, tx, nd.ix, true⟩).length), i < k → (is.set j ⟨nd.b, nd.ty, nd.id, st, tx, nd.ix, true⟩)[i].dn = true) (stop : ∀ h : k < (is.set j ⟨nd.b, nd.ty, nd.id, st, tx, nd.ix, true⟩).length, (is.set j ⟨nd.b, nd.ty, nd.id, st, tx, nd.ix, true⟩)[k].dn = false)
    (ha : k < (is.set j ⟨nd.b, nd.ty, nd.id, st, tx, nd.ix, true⟩).length → a = k) (hcap : os.length ≤ cap) : Closed base os j st tx (is.set j ⟨nd.b, nd.ty, nd.id, st, tx, nd.ix, true⟩) k a cap := by
  refine ⟨by simp [hlen], fun i h h' => ?_, kle, pre, stop, ha, by simp [hlen, hcap]⟩
  have hi : i < is.length := by simpa using h
  obtain ⟨m1, m2, m3, m4, _, m6⟩ := hm.at_ i hi h'
  rw [List.getElem_set]
  by_cases e : j = i
  · subst e
    subst hnd
    simp [m1, m2]
  · simp [e, Ne.symm e, m1, m2, m3, m4, m6]
set_option maxRecDepth 1000000 in
set_option maxHeartbeats 8000000 in
theorem phC (next : PhD) : PhC := by
  unfold PhC
  intro w0 ao bo ca cb ss os j nx kd tx st pt sm vo g cap is w
  intros
  rename_i hB hb hown hrow hmade hlen hitem
  conv => arg 2; whnf
  have l1 := hB.l1
  have l2 := hB.l2
  have hjl := hB.hj
  have c1 : w.cell? ⟨g, j, none⟩ = some (.pointer (some ⟨(is[j]'(by omega)).b, 0, none⟩)) := by
    rw [hrow.cellAt j (by omega)]
    simp [ptrs, hlen, hjl]
  obtain ⟨nd, hnd⟩ : ∃ nd, nd = is[j]'(by omega) := ⟨_, rfl⟩
  rw [← hnd] at c1
  have HND : Hid (nd = is[j]'(by omega)) := hnd
  clear hnd
  have hcap : os.length ≤ cap := by
    rcases hrow.2 with ⟨h, _⟩ | ⟨_, _, _, h, _, _, h7, _⟩
    · cases h
    · simp at h
      omega
  have hs0 := hb.size
  obtain ⟨va, vn, vc, rfl⟩ : ∃ a n c, vo = .slice a n c := by
    rcases hown.2 with ⟨h, _⟩ | ⟨_, _, _, h, _⟩ <;> exact ⟨_, _, _, h⟩
  have HB : Hid (Base w0 ao bo ss os j) := hB
  have HN : Hid PhD := next
  have Hb : Hid (Below w0.heap.size w0 w) := hb
  have HO : Hid (w.ownsRow w0.heap.size 37 11 (.slice va vn vc) ss.length (outs ss)) := hown
  have HR : Hid (w.ownsRow w0.heap.size 40 1 (.slice (some ⟨g, 0, none⟩) os.length cap) os.length (ptrs is)) := hrow
  have HM : Hid (Made ss.length os is) := hmade
  have HI : Hid (∀ i (h : i < is.length), w0.heap.size ≤ is[i].b ∧ w.heap[is[i].b]? = some (.cells is[i].cells 94 (0, 0))) := hitem
  clear hB hb next hown hrow hmade hitem
  cases sm with
  | false =>
    go_wp2_with fail
    refine (newRun_at false _ w.heap.size _ _ _ _ _ (w.heap.size + 2) (by simp) _ rfl).mono ?_
    rintro e w1 ⟨rfl, hw1⟩
    have hsz1 : w1.heap.size = w.heap.size + 4 := by rw [hw1]; simp
    have cj : w1.cell? ⟨g, j, none⟩ = some (.pointer (some ⟨nd.b, 0, none⟩)) := by rw [hw1]; exact cell_al _ (cell_al _ (cell_al _ (cell_al _ c1)))
    have HW1 : Hid (w1 = _) := hw1
    clear hw1 c1
    have cj1 : ∀ o, (w1.alloc o).cell? ⟨g, j, none⟩ = some (.pointer (some ⟨nd.b, 0, none⟩)) := fun o => cell_al _ cj
    have cj2 : ∀ o o', ((w1.alloc o).alloc o').cell? ⟨g, j, none⟩ = some (.pointer (some ⟨nd.b, 0, none⟩)) := fun o o' => cell_al _ (cj1 o)
    go_wp2_with fail
    go_region_held3 (fun w' => w'.cell? ⟨g, j, none⟩ = some (.pointer (some ⟨nd.b, 0, none⟩))) (first | exact cj | exact cj1 _ | exact cj2 _ _ | fail "not kept")
      (first
        | (go_at_call 15; refine (newKind_any kd pt _).mono ?_; rintro e w4 ⟨rfl, rfl⟩)
        | (go_at_call 14; refine (newStreamed_any _ _ _).mono ?_; rintro e w5 ⟨rfl, rfl⟩)
        | fail "no contract")
    go_wp2_with fail
    rename_i K1 h1 K2 h2
    have HK : Hid _ := h1
    clear h1
    obtain ⟨hSt, hBW⟩ := St_start w0 w w1 _ false pt ss os is g cap (.slice va vn vc) kd nx (some ⟨nd.b, 0, none⟩) _ rfl Hb.out HO.out HR.out hlen HI.out HW1.out rfl
    have HBW : Hid (Below w0.heap.size w0 _) := hBW
    clear hBW
    refine (close16_any w0.heap.size false pt (w.heap.size + 3) (w.heap.size + 2) w.heap.size (w.heap.size + 1) (w.heap.size + 5) (w.heap.size + 4) g cap ss.length j is nd (by omega) HND.out nx kd tx st _ _ _ _ hSt (fun i h hne => HM.out.apart i j h (by omega) hne) (by omega) (by omega) (by omega) (by omega) (by omega) (by omega) (by rw [HND.out]; exact (HI.out j (by omega)).1)).mono ?_
    rintro e w2 ⟨rfl, hC⟩
    have HC : Hid (CloseSay w0.heap.size false pt (w.heap.size + 3) (w.heap.size + 2) w.heap.size (w.heap.size + 1) (w.heap.size + 5) (w.heap.size + 4) g cap ss.length j is nd nx kd tx st (.slice va vn vc) (outs ss) _ w2) := hC
    clear hC hSt
    go_wp2
    refine HK.out _ _ ?_
    obtain ⟨vl', w3, k, x, y, ⟨nx', n', xs', hev, hF⟩, hstop, htx, hKK⟩ := HC.out
    obtain ⟨a, ha, hlog⟩ := hF.log
    obtain ⟨vo', hresp, hrow', _⟩ := hF.resp
    obtain ⟨m1, m2, _, _, m5, _⟩ := HM.out.at_ j (by omega) hjl
    rw [← HND.out] at m1 m2 m5
    have next := HN.out
    unfold PhD at next
    apply next
    · exact HB.out
    · exact closed_of HM.out hlen (by omega) HND.out hF.le hF.pre hstop ha hcap
    · exact ⟨HBW.out.trans ⟨hKK.os, hKK.tape, hKK.output, hKK.size, fun q hq => hKK.block q (by have := HBW.out.size; omega) (by omega)⟩, hlog, hF.items, hresp, hrow', htx⟩
    · intro _
      refine ⟨x, y, ?_⟩
      rw [m1, m2, m5] at hev
      exact hev
  | true =>
    go_wp2_with fail
    refine (newRun_at true _ w.heap.size _ _ _ _ _ (w.heap.size + 2) (by simp) _ rfl).mono ?_
    rintro e w1 ⟨rfl, hw1⟩
    have hsz1 : w1.heap.size = w.heap.size + 4 := by rw [hw1]; simp
    have cj : w1.cell? ⟨g, j, none⟩ = some (.pointer (some ⟨nd.b, 0, none⟩)) := by rw [hw1]; exact cell_al _ (cell_al _ (cell_al _ (cell_al _ c1)))
    have HW1 : Hid (w1 = _) := hw1
    clear hw1 c1
    have cj1 : ∀ o, (w1.alloc o).cell? ⟨g, j, none⟩ = some (.pointer (some ⟨nd.b, 0, none⟩)) := fun o => cell_al _ cj
    have cj2 : ∀ o o', ((w1.alloc o).alloc o').cell? ⟨g, j, none⟩ = some (.pointer (some ⟨nd.b, 0, none⟩)) := fun o o' => cell_al _ (cj1 o)
    go_wp2_with fail
    go_region_held3 (fun w' => w'.cell? ⟨g, j, none⟩ = some (.pointer (some ⟨nd.b, 0, none⟩))) (first | exact cj | exact cj1 _ | exact cj2 _ _ | fail "not kept")
      (first
        | (go_at_call 15; refine (newKind_any kd pt _).mono ?_; rintro e w4 ⟨rfl, rfl⟩)
        | (go_at_call 14; refine (newStreamed_any _ _ _).mono ?_; rintro e w5 ⟨rfl, rfl⟩)
        | fail "no contract")
    go_wp2_with fail
    rename_i K1 h1 K2 h2
    have HK : Hid _ := h1
    clear h1
    obtain ⟨hSt, hBW⟩ := St_start w0 w w1 _ true pt ss os is g cap (.slice va vn vc) kd nx (some ⟨nd.b, 0, none⟩) _ rfl Hb.out HO.out HR.out hlen HI.out HW1.out rfl
    have HBW : Hid (Below w0.heap.size w0 _) := hBW
    clear hBW
    refine (close16_any w0.heap.size true pt (w.heap.size + 3) (w.heap.size + 2) w.heap.size (w.heap.size + 1) (w.heap.size + 5) (w.heap.size + 4) g cap ss.length j is nd (by omega) HND.out nx kd tx st _ _ _ _ hSt (fun i h hne => HM.out.apart i j h (by omega) hne) (by omega) (by omega) (by omega) (by omega) (by omega) (by omega) (by rw [HND.out]; exact (HI.out j (by omega)).1)).mono ?_
    rintro e w2 ⟨rfl, hC⟩
    have HC : Hid (CloseSay w0.heap.size true pt (w.heap.size + 3) (w.heap.size + 2) w.heap.size (w.heap.size + 1) (w.heap.size + 5) (w.heap.size + 4) g cap ss.length j is nd nx kd tx st (.slice va vn vc) (outs ss) _ w2) := hC
    clear hC hSt
    go_wp2
    refine HK.out _ _ ?_
    obtain ⟨vl', w3, k, x, y, ⟨nx', n', xs', hev, hF⟩, hstop, htx, hKK⟩ := HC.out
    obtain ⟨a, ha, hlog⟩ := hF.log
    obtain ⟨vo', hresp, hrow', _⟩ := hF.resp
    obtain ⟨m1, m2, _, _, m5, _⟩ := HM.out.at_ j (by omega) hjl
    rw [← HND.out] at m1 m2 m5
    have next := HN.out
    unfold PhD at next
    apply next
    · exact HB.out
    · exact closed_of HM.out hlen (by omega) HND.out hF.le hF.pre hstop ha hcap
    · exact ⟨HBW.out.trans ⟨hKK.os, hKK.tape, hKK.output, hKK.size, fun q hq => hKK.block q (by have := HBW.out.size; omega) (by omega)⟩, hlog, hF.items, hresp, hrow', htx⟩
    · intro _
      refine ⟨x, y, ?_⟩
      rw [m1, m2, m5] at hev
      exact hev
end Go.Proofs.Qxb6612221a.Cl
