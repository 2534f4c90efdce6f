/- WALKS of zzAdd, zzSizeStringList, zzSizeSlots, zzSizeClose. -/
import Derived.Test.Qxb6612221aClA
namespace Go.Proofs.Qxb6612221a.Cl
open Go.RowKit

def IntSay (e : Ending) : Prop := ∃ t : Int, e = .returned (.int .i64 t) ∧ 0 ≤ t ∧ t ≤ 1048577
set_option maxHeartbeats 1000000 in
theorem add_any (t n : Int) (w : World) (t0 : 0 ≤ t) (t1 : t ≤ 1048577) (n0 : 0 ≤ n) :
    Calls Try.prog 27 #[.int .i64 t, .int .i64 n] w fun e w' => IntSay e ∧ w = w' := by
  by_cases h1 : 1048576 < t
  · go_enter Try.func27, Try.ntmps27
    go_wp2
    go_ret
    exact ⟨⟨_, rfl, by omega, by omega⟩, rfl⟩
  by_cases h2 : 1048576 < n
  · go_enter Try.func27, Try.ntmps27
    go_wp2
    go_ret
    exact ⟨⟨_, rfl, by omega, by omega⟩, rfl⟩
  by_cases h3 : 1048576 < t + n
  · go_enter Try.func27, Try.ntmps27
    go_wp2
    go_ret
    exact ⟨⟨_, rfl, by omega, by omega⟩, rfl⟩
  · go_enter Try.func27, Try.ntmps27
    go_wp2
    go_ret
    exact ⟨⟨_, rfl, by omega, by omega⟩, rfl⟩

set_option maxHeartbeats 1000000 in
theorem sizeS_any (ao : Option Addr) (ca : Nat) (ss : List ByteArray) (w : World) (hs : StrRow w ao ss) (hl : ss.length ≤ 1048576) :
    Calls Try.prog 28 #[.slice ao ss.length ca] w fun e w' => IntSay e ∧ w = w' := by
  have HS : Hid (StrRow w ao ss) := hs
  clear hs
  by_cases n1 : 65536 < ss.length
  · go_enter Try.func28, Try.ntmps28
    go_wp2
    go_ret
    exact ⟨⟨_, rfl, by omega, by omega⟩, rfl⟩
  go_enter Try.func28, Try.ntmps28
  go_wp2
  go_loop [3, 4] (fun t i => ∃ (k : Nat) (z : Int), k ≤ ss.length ∧ i = .int .i64 k ∧ t = .int .i64 z ∧ 0 ≤ z ∧ z ≤ 1048577) (fun _ i => ss.length - (intOf i).toNat)
  case atStart => exact ⟨0, _, Nat.zero_le _, rfl, rfl, by omega, by omega⟩
  case round =>
    obtain ⟨k, z, hk, rfl, rfl, z0, z1⟩ := hrel
    by_cases hlt : k < ss.length
    · obtain ⟨b, off, rfl, hc⟩ := HS.out k hlt
      generalize ss[k] = s at *
      go_wp2_with fail
      refine (add_any _ _ _ z0 z1 (by omega)).mono ?_
      rintro e w1 ⟨⟨t, rfl, t0, t1⟩, rfl⟩
      go_wp2
      go_round
      case rel => exact ⟨k + 1, t, by omega, by go_num, rfl, t0, t1⟩
      case measure => simp [intOf]; omega
    · go_wp2
      go_ret
      exact ⟨⟨_, rfl, by omega, by omega⟩, rfl⟩

set_option maxHeartbeats 1000000 in
theorem sizeO_any (bo : Option Addr) (cb : Nat) (os : List Sl) (w : World) (ho : SlotRow w bo os) (hl : os.length ≤ 1048576) :
    Calls Try.prog 29 #[.slice bo os.length cb] w fun e w' => IntSay e ∧ w = w' := by
  have HO : Hid (SlotRow w bo os) := ho
  clear ho
  by_cases n1 : 65536 < os.length
  · go_enter Try.func29, Try.ntmps29
    go_wp2
    go_ret
    exact ⟨⟨_, rfl, by omega, by omega⟩, rfl⟩
  by_cases n2 : 1048576 < 40 * os.length
  · go_enter Try.func29, Try.ntmps29
    go_wp2
    go_ret
    exact ⟨⟨_, rfl, by omega, by omega⟩, rfl⟩
  go_enter Try.func29, Try.ntmps29
  go_wp2
  go_loop [3, 4] (fun t i => ∃ (k : Nat) (z : Int), k ≤ os.length ∧ i = .int .i64 k ∧ t = .int .i64 z ∧ 0 ≤ z ∧ z ≤ 1048577) (fun _ i => os.length - (intOf i).toNat)
  case atStart => exact ⟨0, _, Nat.zero_le _, rfl, rfl, by omega, by omega⟩
  case round =>
    obtain ⟨k, z, hk, rfl, rfl, z0, z1⟩ := hrel
    by_cases hlt : k < os.length
    · obtain ⟨b, off, rfl, hc, hd, -⟩ := HO.out k hlt
      generalize os[k].id = s at *
      generalize os[k].ty = s2 at *
      go_wp2_with fail
      refine (add_any _ _ _ z0 z1 (by omega)).mono ?_
      rintro e w1 ⟨⟨t, rfl, t0, t1⟩, rfl⟩
      go_wp2_with fail
      refine (add_any _ _ _ t0 t1 (by omega)).mono ?_
      rintro e w1 ⟨⟨t2, rfl, t3, t4⟩, rfl⟩
      go_wp2
      go_round
      case rel => exact ⟨k + 1, t2, by omega, by go_num, rfl, t3, t4⟩
      case measure => simp [intOf]; omega
    · go_wp2
      go_ret
      exact ⟨⟨_, rfl, by omega, by omega⟩, rfl⟩

set_option maxHeartbeats 1000000 in
theorem sizeC_any (ao bo : Option Addr) (ca cb : Nat) (ss : List ByteArray) (os : List Sl) (kd tx st : ByteArray) (w : World) (hs : StrRow w ao ss) (ho : SlotRow w bo os) (hl : ss.length ≤ 1048576) (hl2 : os.length ≤ 1048576) :
    Calls Try.prog 9 #[.slice ao ss.length ca, .slice bo os.length cb, .string kd, .string tx, .string st] w fun e w' => IntSay e ∧ w = w' := by
  have HS : Hid (StrRow w ao ss) := hs
  have HO : Hid (SlotRow w bo os) := ho
  clear hs ho
  go_enter Try.func9, Try.ntmps9
  go_wp2_with fail
  refine (sizeS_any ao ca ss _ HS.out hl).mono ?_
  rintro e w1 ⟨⟨t1, rfl, a1, b1⟩, rfl⟩
  go_wp2_with fail
  refine (sizeO_any bo cb os _ HO.out hl2).mono ?_
  rintro e w1 ⟨⟨t2, rfl, a2, b2⟩, rfl⟩
  go_wp2_with fail
  refine (add_any _ _ _ a1 b1 a2).mono ?_
  rintro e w1 ⟨⟨t3, rfl, a3, b3⟩, rfl⟩
  go_wp2_with fail
  refine (add_any _ _ _ a3 b3 (by omega)).mono ?_
  rintro e w1 ⟨⟨t4, rfl, a4, b4⟩, rfl⟩
  go_wp2_with fail
  refine (add_any _ _ _ a4 b4 (by omega)).mono ?_
  rintro e w1 ⟨⟨t5, rfl, a5, b5⟩, rfl⟩
  go_wp2_with fail
  refine (add_any _ _ _ a5 b5 (by omega)).mono ?_
  rintro e w1 ⟨⟨t6, rfl, a6, b6⟩, rfl⟩
  go_wp2
  go_ret
  exact ⟨⟨_, rfl, a6, b6⟩, rfl⟩
end Go.Proofs.Qxb6612221a.Cl
