/- WALK of the law's own function: the guards; the rest is the phases'. -/
import Derived.Test.Qxb6612221aClPA
import Derived.Test.Qxb6612221aClPB
import Derived.Test.Qxb6612221aClPC
import Derived.Test.Qxb6612221aClPD
import Derived.Test.Qxb6612221aClPE
import Derived.Test.Qxb6612221aClPG
import Derived.Test.Qxb6612221aClPH
import Derived.Test.Qxb6612221aClPI
import Derived.Test.Qxb6612221aClPM
import Derived.Deep.DeepCutAuto
import Derived.Deep.CutBlock
namespace Go.Proofs.Qxb6612221a.Cl
open Go.RowKit
attribute [local go_sem ↓] Go.wp_at_zero Go.wp_at_succ
theorem all_phases : PhA := phA (phB (phC (phD (phE (phF (phG (phH (phI (phK (phL phM))))))))))
set_option maxRecDepth 1000000 in
set_option maxHeartbeats 8000000 in
theorem main_any (ao bo : Option Addr) (ca cb : Nat) (ss : List ByteArray) (os : List Sl) (j nx : Int) (kd tx st : ByteArray) (pt sm : Bool) (w : World) (hs : StrRow w ao ss) (ho : SlotRow w bo os) (hl : ss.length ≤ maxLen) (hl2 : os.length ≤ maxLen) :
    Calls Try.prog 5 #[.slice ao ss.length ca, .slice bo os.length cb, .int .i64 j, .string kd, .bool pt, .bool sm, .int .i64 nx, .string tx, .string st] w fun e w' => e = .returned (.bool true) ∧ Below w.heap.size w w' := by
  have HA : Hid PhA := all_phases
  have HS : Hid (StrRow w ao ss) := hs
  have HO : Hid (SlotRow w bo os) := ho
  clear hs ho
  go_enter Try.func5, Try.ntmps5
  go_wp2_with fail
  refine (bytes_any ao bo ca cb ss os j nx kd tx st pt sm w HS.out HO.out hl hl2).mono ?_
  rintro e w1 ⟨⟨b1, rfl, hb1⟩, rfl⟩
  cases b1 with
  | false =>
    clear hb1
    go_wp2
    go_ret
    exact ⟨rfl, Below.refl _ _⟩
  | true =>
    obtain ⟨n1, n2⟩ := hb1 rfl
    clear hb1
    go_wp2_with fail
    refine (sizeC_any ao bo ca cb ss os kd tx st w HS.out HO.out n1 n2).mono ?_
    rintro e w1 ⟨⟨t, rfl, t0, t1⟩, rfl⟩
    by_cases ht : 1048576 < t
    · go_wp2
      go_ret
      exact ⟨rfl, Below.refl _ _⟩
    go_upto_region 5 with fail
    rename_i K1 h1 K2 h2
    have HK : Hid _ := h1
    clear h1
    by_cases z0 : os.length = 0
    · have z1 : ((os.length : Int) == 0) = true := by simp [z0]
      go_wp2
      go_ret
      exact ⟨rfl, Below.refl _ _⟩
    have z1 : ((os.length : Int) == 0) = false := by simp [z0]
    by_cases j0 : j < 0
    · go_wp2
      go_ret
      exact ⟨rfl, Below.refl _ _⟩
    by_cases j1 : (os.length : Int) ≤ j
    · go_wp2
      go_ret
      exact ⟨rfl, Below.refl _ _⟩
    obtain ⟨jn, rfl⟩ : ∃ n : Nat, j = n := ⟨j.toNat, by omega⟩
    have hj : jn < os.length := by omega
    obtain ⟨b, off, rfl, -, -, c3⟩ := HO.out jn hj
    obtain ⟨b', off', e', -, -, d3⟩ := HO.out 0 (by omega)
    cases e'
    simp only [Nat.zero_mul, Nat.add_zero] at d3
    generalize os[jn].dn = dj at c3
    generalize os[0].dn = d0 at d3
    cases dj with
    | true =>
      go_wp2
      go_ret
      exact ⟨rfl, Below.refl _ _⟩
    | false =>
      cases d0 with
      | true =>
        go_wp2
        go_ret
        exact ⟨rfl, Below.refl _ _⟩
      | false =>
        go_wp2
        refine HK.out _ _ ?_
        have next := HA.out
        unfold PhA at next
        apply next
        · exact ⟨HS.out, HO.out, n1, n2, hj⟩
        · exact Below.refl _ _
end Go.Proofs.Qxb6612221a.Cl
