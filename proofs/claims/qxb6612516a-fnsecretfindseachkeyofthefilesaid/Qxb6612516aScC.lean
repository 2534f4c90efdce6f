/- WALKS of the closure in Secret, slices.IndexFunc, Secret. -/
import Derived.Test.Qxb6612516aScB
namespace Go.Proofs.Qxb6612516a.Sc
open Go.RowKit

set_option maxHeartbeats 1000000 in
theorem clos_any (kid id : ByteArray) (sa : Option Addr) (sl sc ib : Nat) (w : World) (hi : w.cell? ⟨ib, 0, none⟩ = some (.string id)) :
    Calls Try.prog 12 #[.agg #[.string kid, .slice sa sl sc], .pointer (some ⟨ib, 0, none⟩)] w fun e w' => e = .returned (.bool (kid.toList == id.toList)) ∧ Below w.heap.size w w' := by
  have hi' : ∀ o, (w.alloc o).cell? ⟨ib, 0, none⟩ = some (.string id) := fun o => cell_below ((Below.refl _ _).alloc (Nat.le_refl _) o) hi
  clear hi
  go_enter Try.func12, Try.ntmps12
  go_wp2
  go_ret
  exact ⟨rfl, (Below.refl _ _).alloc (Nat.le_refl _) _⟩

set_option maxHeartbeats 2000000 in
/-- slices.IndexFunc where key i is the first that fits -/
theorem indexF_any (ao : Option Addr) (cap ib i : Nat) (ks : List Kd) (id : ByteArray) (w : World) (hk : KeyRow w ao ks) (hi : w.cell? ⟨ib, 0, none⟩ = some (.string id)) (hl : ks.length ≤ 1048576)
    (hin : i < ks.length) (hit : (ks[i].id.toList == id.toList) = true) (hno : ∀ j (h : j < i), (ks[j].id.toList == id.toList) = false) :
    Calls Try.prog 11 #[.slice ao ks.length cap, .func (Fn.func 12) #[] #[.pointer (some ⟨ib, 0, none⟩)]] w fun e w' => e = .returned (.int .i64 i) ∧ Below w.heap.size w w' := by
  have HK : Hid (KeyRow w ao ks) := hk
  have HI : Hid (w.cell? ⟨ib, 0, none⟩ = some (.string id)) := hi
  have HT : Hid ((ks[i].id.toList == id.toList) = true) := hit
  have HN : Hid (∀ j (h : j < i), (ks[j].id.toList == id.toList) = false) := hno
  clear hk hi hit hno
  go_enter Try.func11, Try.ntmps11
  go_wp2
  go_loopw [8] (fun x wr => ∃ (k : Nat), k ≤ i ∧ x = .int .i64 k ∧ Hid (Below w.heap.size w wr)) (fun x _ => i - (intOf x).toNat)
  case atStart => exact ⟨0, Nat.zero_le _, rfl, Below.refl _ _⟩
  case round =>
    obtain ⟨k, hk, rfl, HB⟩ := hrel
    have hlt : k < ks.length := by omega
    obtain ⟨b, off, rfl, hc, hd⟩ := HK.out k hlt
    have hc' := cell_below HB.out hc
    have hd' := cell_below HB.out hd
    have hib := cell_below HB.out HI.out
    clear hc hd
    by_cases hki : k = i
    · subst hki
      generalize ks[k].id = kid at *
      generalize ks[k].sa = sa at *
      generalize ks[k].sl = sl at *
      generalize ks[k].sc = sc at *
      go_wp2_with (go_at_call 12; refine (clos_any kid id sa sl sc ib _ hib).mono ?_; rintro e w1 ⟨rfl, hb1⟩; rw [HT.out]; have HB1 : Hid (Below w.heap.size w w1) := HB.out.trans (hb1.mono HB.out.size); clear hb1)
      go_ret
      exact ⟨rfl, HB1.out⟩
    · have hno := HN.out k (by omega)
      have HNO : Hid ((ks[k].id.toList == id.toList) = false) := hno
      clear hno
      generalize ks[k].id = kid at *
      generalize ks[k].sa = sa at *
      generalize ks[k].sl = sl at *
      generalize ks[k].sc = sc at *
      go_wp2_with (go_at_call 12; refine (clos_any kid id sa sl sc ib _ hib).mono ?_; rintro e w1 ⟨rfl, hb1⟩; rw [HNO.out]; have HB1 : Hid (Below w.heap.size w w1) := HB.out.trans (hb1.mono HB.out.size); clear hb1)
      go_roundw
      case rel => exact ⟨k + 1, by omega, by go_num, HB1⟩
      case measure => simp [intOf]; omega

set_option maxHeartbeats 2000000 in
/-- Secret: the id is not among the accepted ones -/
theorem secret_no (R S cap : Nat) (ao : Option Addr) (ss : List ByteArray) (id : ByteArray) (w : World) (hS : w.cell? ⟨S, 0, none⟩ = some (.slice ao ss.length cap)) (hs : StrRow w ao ss) (hl : ss.length ≤ 1048576) (hno : has ss id = false) :
    Calls Try.prog 8 #[.pointer (some ⟨R, 0, none⟩), .pointer (some ⟨S, 0, none⟩), .string id] w fun e w' => e = .returned (.tuple #[.slice none 0 0, .bool false]) ∧ Below w.heap.size w w' := by
  have hb : ∀ o, Below w.heap.size w (w.alloc o) := fun o => (Below.refl _ _).alloc (Nat.le_refl _) o
  have hS' : ∀ o, (w.alloc o).cell? ⟨S, 0, none⟩ = some (.slice ao ss.length cap) := fun o => cell_below (hb o) hS
  have HS : Hid (∀ o n, StrRow ((w.alloc o).drewN n) ao ss) := fun o n => hs.below (below_drewN (hb o) n)
  have HNo : Hid (has ss id = false) := hno
  have HB : Hid (∀ o, Below w.heap.size w (w.alloc o)) := hb
  clear hs hno hS hb
  go_enter Try.func8, Try.ntmps8
  go_wp2
  go_quiet ((go_at_call 10; exact Calls.quiet_of_same (contains_any ao cap ss id _ (HS.out _ _) hl)))
  rw [HNo.out]
  go_wp2
  go_ret2
  exact ⟨rfl, below_drewN (HB.out _) _⟩

set_option maxHeartbeats 2000000 in
/-- Secret: the id is accepted, and key i is the first that bears it -/
theorem secret_yes (R S cap cap2 i : Nat) (ao ak : Option Addr) (ss : List ByteArray) (ks : List Kd) (id : ByteArray) (w : World) (hS : w.cell? ⟨S, 0, none⟩ = some (.slice ao ss.length cap)) (hs : StrRow w ao ss) (hl : ss.length ≤ 1048576) (hyes : has ss id = true)
    (hR : w.cell? ⟨R, 11, none⟩ = some (.slice ak ks.length cap2)) (hk : KeyRow w ak ks) (hl2 : ks.length ≤ 1048576)
    (hin : i < ks.length) (hit : (ks[i].id.toList == id.toList) = true) (hno : ∀ j (h : j < i), (ks[j].id.toList == id.toList) = false) :
    Calls Try.prog 8 #[.pointer (some ⟨R, 0, none⟩), .pointer (some ⟨S, 0, none⟩), .string id] w fun e w' => e = .returned (.tuple #[.slice ks[i].sa ks[i].sl ks[i].sc, .bool true]) ∧ Below w.heap.size w w' := by
  have hb : ∀ o, Below w.heap.size w (w.alloc o) := fun o => (Below.refl _ _).alloc (Nat.le_refl _) o
  have hS' : ∀ o, (w.alloc o).cell? ⟨S, 0, none⟩ = some (.slice ao ss.length cap) := fun o => cell_below (hb o) hS
  have hR' : ∀ o, (w.alloc o).cell? ⟨R, 11, none⟩ = some (.slice ak ks.length cap2) := fun o => cell_below (hb o) hR
  have HS : Hid (∀ o n, StrRow ((w.alloc o).drewN n) ao ss) := fun o n => hs.below (below_drewN (hb o) n)
  have HK : Hid (∀ o n, KeyRow ((w.alloc o).drewN n) ak ks) := fun o n => hk.below (below_drewN (hb o) n)
  have HY : Hid (has ss id = true) := hyes
  have HB : Hid (∀ o, Below w.heap.size w (w.alloc o)) := hb
  have HT : Hid ((ks[i].id.toList == id.toList) = true) := hit
  have HN : Hid (∀ j (h : j < i), (ks[j].id.toList == id.toList) = false) := hno
  have HR : Hid (w.cell? ⟨R, 11, none⟩ = some (.slice ak ks.length cap2)) := hR
  have HK0 : Hid (KeyRow w ak ks) := hk
  clear hs hyes hS hb hk hit hno hR
  go_enter Try.func8, Try.ntmps8
  go_wp2
  go_quiet ((go_at_call 10; exact Calls.quiet_of_same (contains_any ao cap ss id _ (HS.out _ _) hl)))
  rw [HY.out]
  go_wp2_with fail
  refine (indexF_any ak cap2 w.heap.size i ks id _ (HK.out _ _) (by simp) hl2 hin HT.out HN.out).mono ?_
  rintro e w1 ⟨rfl, hb1⟩
  have hbw : Below w.heap.size w w1 := by
    have h0 := below_drewN (HB.out (.cells #[.string id] 9)) nq
    exact h0.trans (hb1.mono h0.size)
  have hR1 := cell_below hbw HR.out
  obtain ⟨b, off, rfl, hc, hd⟩ := HK0.out i hin
  have hd1 := cell_below hbw hd
  have HBW : Hid (Below w.heap.size w w1) := hbw
  clear hb1 hbw hc hd
  go_wp2
  go_ret2
  exact ⟨rfl, HBW.out⟩
end Go.Proofs.Qxb6612516a.Sc
