/- The law's function: the output's old items. -/
import Derived.Test.Qxb6612221aClJ
namespace Go.Proofs.Qxb6612221a.Cl
open Go.RowKit
attribute [local go_sem ↓] Go.wp_at_zero Go.wp_at_succ
theorem below_alF (w : World) (o : Obj) : Below w.heap.size w (w.alloc o) := (Below.refl _ w).alloc (Nat.le_refl _) o
theorem flat_get {α β : Type} (f : α → List β) (L : Nat) (hf : ∀ x, (f x).length = L) : ∀ (l : List α) (n c : Nat) (hn : n < l.length), c < L → (l.flatMap f)[n * L + c]? = (f l[n])[c]?
  | [], n, c, hn, hc => absurd hn (Nat.not_lt_zero _)
  | x :: l, 0, c, hn, hc => by
    simp only [List.flatMap_cons, Nat.zero_mul, Nat.zero_add, List.getElem_cons_zero]
    exact List.getElem?_append_left (by rw [hf]; exact hc)
  | x :: l, n + 1, c, hn, hc => by
    simp only [List.flatMap_cons, List.getElem_cons_succ]
    rw [List.getElem?_append_right (by rw [hf, Nat.succ_mul]; omega), hf, show (n + 1) * L + c - L = n * L + c by rw [Nat.succ_mul]; omega]
    exact flat_get f L hf l n c (by simpa using hn) hc
theorem flat_len {α β : Type} (f : α → List β) (L : Nat) (hf : ∀ x, (f x).length = L) : ∀ (l : List α), (l.flatMap f).length = l.length * L
  | [] => by simp
  | x :: l => by rw [List.flatMap_cons, List.length_append, hf, flat_len f L hf l, List.length_cons, Nat.succ_mul]; omega
theorem got_out {B0 : Nat} {w : World} {ss : List ByteArray} {k gg vc : Nat} {ys : List Value} (h : w.ownsRow B0 37 11 (.slice (some ⟨gg, 0, none⟩) (ss.length + k) vc) (ss.length + k) (outs ss ++ ys)) (n c : Nat) (hn : n < ss.length) (hc : c < 11) :
    w.cell? ⟨gg, n * 11 + c, none⟩ = (itemCells msgS ss[n] compS eS).toList[c]? := by
  rw [h.cellAt _ (by omega)]
  have hl : (outs ss).length = ss.length * 11 := flat_len _ 11 (fun _ => rfl) ss
  rw [List.getElem?_append_left (by rw [hl]; omega)]
  exact flat_get _ 11 (fun _ => rfl) ss n c hn hc
set_option maxRecDepth 1000000 in
set_option maxHeartbeats 8000000 in
theorem phF (next : PhG) : PhF := by
  unfold PhF
  intro w0 ao bo ca cb ss os j nx kd tx st pt sm rB pB lB sB tB kB g cap is k a nx2 vl n2 xs2 vo cB w
  intros
  rename_i hB hcl hfin hev hcB
  conv => arg 2; whnf
  have l1 := hB.l1
  have l2 := hB.l2
  have hjl := hB.hj
  have klen := hcl.kle
  rw [hcl.len] at klen
  obtain ⟨rc, hrc, hrc9⟩ := hfin.resp
  obtain ⟨va, vc, rfl⟩ : ∃ a c, vo = .slice a (ss.length + k) c := by
    rcases hfin.row.2 with ⟨h, h0⟩ | ⟨_, _, _, h, _⟩
    · exact ⟨none, 0, by rw [h, h0]⟩
    · exact ⟨_, _, h⟩
  have t1 : w.cell? ⟨sB, 9, none⟩ = some (.slice va (ss.length + k) vc) := (cell_look hrc).trans hrc9
  clear hrc hrc9
  have hwr : IntKind.i64.wrap ((ss.length : Int) + (k : Int)) = (ss.length : Int) + (k : Int) := IntWalk.i64_in _ (by omega)
  have HB : Hid (Base w0 ao bo ss os j) := hB
  have HN : Hid PhG := next
  have HE : Hid (∀ h : j < os.length, Evs sm pt nx ((ss.length : Int) + j) kd tx st os[j].ty os[j].id nx2 n2 xs2) := hev
  have HC : Hid (Closed ss.length os j st tx is k a cap) := hcl
  have HF : Hid (Fin w0 ss sm rB pB lB sB tB kB g cap is k a nx2 vl n2 xs2 (.slice va (ss.length + k) vc) w) := hfin
  have HCB : Hid (w.heap[cB]? = some (.cells (itemCells os[j].ty os[j].id st tx) 37 (0, 0))) := hcB hjl
  clear hB hcl next hfin hev hcB
  go_wp2
  rename_i K hK
  have HK : Hid _ := hK
  clear hK
  go_loopw [36] (fun i wr => ∃ n : Nat, n ≤ ss.length ∧ i = .int .i64 n ∧ Fin w0 ss sm rB pB lB sB tB kB g cap is k a nx2 vl n2 xs2 (.slice va (ss.length + k) vc) wr ∧ wr.heap[cB]? = some (.cells (itemCells os[j].ty os[j].id st tx) 37 (0, 0))) (fun i _ => ss.length - (intOf i).toNat)
  case atStart => exact ⟨0, Nat.zero_le _, rfl, HF.out, HCB.out⟩
  case round =>
    obtain ⟨n, hn, rfl, hF, hC⟩ := hrel
    by_cases hlt : n < ss.length
    · obtain ⟨b, off, rfl, c1⟩ := (HB.out.sr.below hF.old) n hlt
      obtain ⟨gg, vc', e, _, _⟩ := hF.row.form (by omega)
      obtain ⟨rfl, rfl⟩ : va = some ⟨gg, 0, none⟩ ∧ vc = vc' := by simp at e; exact e
      clear e
      have hg := fun c hc => got_out hF.row n c hlt hc
      obtain ⟨s, hs⟩ : ∃ s, ss[n] = s := ⟨_, rfl⟩
      rw [hs] at c1
      simp only [hs] at hg
      have HS' : Hid (ss[n] = s) := hs
      clear hs
      have HF2 : Hid (Fin w0 ss sm rB pB lB sB tB kB g cap is k a nx2 vl n2 xs2 (.slice (some ⟨gg, 0, none⟩) (ss.length + k) vc) wr) := hF
      have HC2 : Hid (wr.heap[cB]? = some (.cells (itemCells os[j].ty os[j].id st tx) 37 (0, 0))) := hC
      have hlti : (n : Int) < (ss.length : Int) + (k : Int) := by omega
      have hlti2 : (n : Int) < ((ss.length + k : Nat) : Int) := by omega
      have HK1 : Hid (∀ w', Below wr.heap.size wr w' → w'.cell? ⟨b, off + n, none⟩ = some (.string s) ∧ w'.cell? ⟨gg, n * 11, none⟩ = some (.string msgS) ∧ w'.cell? ⟨gg, n * 11 + 1, none⟩ = some (.string s) ∧ w'.cell? ⟨gg, n * 11 + 2, none⟩ = some (.string compS) ∧ w'.cell? ⟨gg, n * 11 + 3, none⟩ = some (.string ⟨#[]⟩) ∧ w'.cell? ⟨gg, n * 11 + 4, none⟩ = some (.slice none 0 0) ∧ w'.cell? ⟨gg, n * 11 + 5, none⟩ = some (.string ⟨#[]⟩) ∧ w'.cell? ⟨gg, n * 11 + 6, none⟩ = some (.string ⟨#[]⟩) ∧ w'.cell? ⟨gg, n * 11 + 7, none⟩ = some (.string ⟨#[]⟩) ∧ w'.cell? ⟨gg, n * 11 + 8, none⟩ = some (.string ⟨#[]⟩) ∧ w'.cell? ⟨gg, n * 11 + 9, none⟩ = some (.bool false) ∧ w'.cell? ⟨gg, n * 11 + 10, none⟩ = some (.string eS)) := fun w' hb => ⟨cell_below hb c1, cell_below hb (hg 0 (by omega)), cell_below hb (hg 1 (by omega)), cell_below hb (hg 2 (by omega)), cell_below hb (hg 3 (by omega)), cell_below hb (hg 4 (by omega)), cell_below hb (hg 5 (by omega)), cell_below hb (hg 6 (by omega)), cell_below hb (hg 7 (by omega)), cell_below hb (hg 8 (by omega)), cell_below hb (hg 9 (by omega)), cell_below hb (hg 10 (by omega))⟩
      clear hF hC hg c1
      go_wp2_with fail
      go_region_held3 (fun w' => w'.cell? ⟨b, off + n, none⟩ = some (.string s) ∧ w'.cell? ⟨gg, n * 11, none⟩ = some (.string msgS) ∧ w'.cell? ⟨gg, n * 11 + 1, none⟩ = some (.string s) ∧ w'.cell? ⟨gg, n * 11 + 2, none⟩ = some (.string compS) ∧ w'.cell? ⟨gg, n * 11 + 3, none⟩ = some (.string ⟨#[]⟩) ∧ w'.cell? ⟨gg, n * 11 + 4, none⟩ = some (.slice none 0 0) ∧ w'.cell? ⟨gg, n * 11 + 5, none⟩ = some (.string ⟨#[]⟩) ∧ w'.cell? ⟨gg, n * 11 + 6, none⟩ = some (.string ⟨#[]⟩) ∧ w'.cell? ⟨gg, n * 11 + 7, none⟩ = some (.string ⟨#[]⟩) ∧ w'.cell? ⟨gg, n * 11 + 8, none⟩ = some (.string ⟨#[]⟩) ∧ w'.cell? ⟨gg, n * 11 + 9, none⟩ = some (.bool false) ∧ w'.cell? ⟨gg, n * 11 + 10, none⟩ = some (.string eS))
          (first | exact HK1.out _ (below_drewN (Below.refl _ wr) 1) | exact HK1.out _ (below_drewN (below_alF wr _) 1) | exact HK1.out _ (Below.trans (below_drewN (below_alF wr _) 1) (Below.mono hb5 (by simp))) | fail "not kept")
          (first
            | (go_at_call 10; refine (outItem_any s _).mono ?_; rintro e w4 ⟨rfl, rfl⟩)
            | (go_at_call 19; refine (eqItem_any msgS s compS eS _).mono ?_; rintro e w5 ⟨rfl, hb5⟩)
            | fail "no contract")
      have HB5 : Hid (Below wr.heap.size wr w5) := Below.trans (below_drewN (below_alF wr _) 1) (Below.mono hb5 (by simp))
      clear hb5
      go_wp2
      go_round
      case rel => exact ⟨n + 1, by omega, by go_num, HF2.out.below HB5.out, (HB5.out.block _ (lt_of_look HC2.out)).trans HC2.out⟩
      case measure => simp [intOf]; omega
    · have hno : n = ss.length := by omega
      subst hno
      go_wp2
      refine HK.out _ _ ?_
      have next := HN.out
      unfold PhG at next
      apply next
      · exact HB.out
      · exact HC.out
      · exact hF
      · exact HE.out
      · exact fun _ => hC
end Go.Proofs.Qxb6612221a.Cl
