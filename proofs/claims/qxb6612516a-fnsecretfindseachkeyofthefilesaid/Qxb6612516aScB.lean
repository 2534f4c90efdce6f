/- WALKS of sameBytes, slices.Index, slices.Contains, the closure in Secret, slices.IndexFunc, Secret. -/
import Derived.Test.Qxb6612516aScA
namespace Go.Proofs.Qxb6612516a.Sc
open Go.RowKit

/-- the bytes of a secret in memory -/
def BytesRow (w : World) (ao : Option Addr) (m : Nat) : Prop := ∀ i, i < m → ∃ b off x, ao = some ⟨b, off, none⟩ ∧ w.cell? ⟨b, off + i, none⟩ = some (.int .u8 x)
theorem BytesRow.below {w w' : World} (hb : Below w.heap.size w w') {ao : Option Addr} {m : Nat} (h : BytesRow w ao m) : BytesRow w' ao m := fun i hi => by
  obtain ⟨b, off, x, h1, h2⟩ := h i hi
  exact ⟨b, off, x, h1, cell_below hb h2⟩

set_option maxHeartbeats 1000000 in
theorem same_any (sa : Option Addr) (sl sc : Nat) (w : World) (hb : BytesRow w sa sl) (hl : sl ≤ maxLen) :
    Calls Try.prog 9 #[.slice sa sl sc, .slice sa sl sc] w fun e w' => e = .returned (.bool true) ∧ ∃ n, w' = w.drewN n := by
  have HK : Hid (BytesRow w sa sl) := hb
  have hnil := fun w => Lib.run_eql_slice_nil (P := Try.prog) w 25 5 sa sl sc 0 0 Try.underlying25
  clear hb
  unfold maxLen at hl
  go_enter Try.func9, Try.ntmps9
  go_wp2
  go_loopw [5] (fun i wr => ∃ (k j : Nat), k ≤ sl ∧ i = .int .i64 k ∧ wr = w.drewN j) (fun i _ => sl - (intOf i).toNat)
  case atStart => exact ⟨0, 0, Nat.zero_le _, rfl, rfl⟩
  case round =>
    obtain ⟨k, j, hk, rfl, rfl⟩ := hrel
    by_cases hlt : k < sl
    · obtain ⟨b, off, x, rfl, hc⟩ := HK.out k hlt
      have hki : (k : Int) < (sl : Int) := by omega
      go_wp2
      go_quiet (fail)
      go_wp2
      go_roundw
      case rel => exact ⟨k + 1, _, by omega, by go_num, rfl⟩
      case measure => simp [intOf]; omega
    · go_wp2
      go_ret
      exact ⟨rfl, _, rfl⟩

/-- a row of ids -/
def StrRow (w : World) (ao : Option Addr) (ss : List ByteArray) : Prop :=
  ∀ i (h : i < ss.length), ∃ b off, ao = some ⟨b, off, none⟩ ∧ w.cell? ⟨b, off + i, none⟩ = some (.string ss[i])
theorem StrRow.below {w w' : World} (hb : Below w.heap.size w w') {ao : Option Addr} {ss : List ByteArray} (h : StrRow w ao ss) : StrRow w' ao ss := fun i hi => by
  obtain ⟨b, off, h1, h2⟩ := h i hi
  exact ⟨b, off, h1, cell_below hb h2⟩
/-- the first place at which the id stands -/
def has (ss : List ByteArray) (id : ByteArray) : Bool := ss.any (fun s => id.toList == s.toList)
theorem has_zero (ss : List ByteArray) (id : ByteArray) : has (ss.take 0) id = false := by simp [has]
theorem has_hit (ss : List ByteArray) (id : ByteArray) (k : Nat) (h : k < ss.length) (e : (id.toList == ss[k].toList) = true) : has ss id = true := by
  unfold has; rw [List.any_eq_true]; exact ⟨ss[k], List.getElem_mem h, e⟩
theorem has_miss (ss : List ByteArray) (id : ByteArray) (k : Nat) (h : k < ss.length) (e : (id.toList == ss[k].toList) = false) (h0 : has (ss.take k) id = false) : has (ss.take (k + 1)) id = false := by
  rw [List.take_succ_eq_append_getElem h]
  unfold has at *
  rw [List.any_append, h0]
  simp [e]
theorem has_end (ss : List ByteArray) (id : ByteArray) (k : Nat) (h : ss.length ≤ k) (h0 : has (ss.take k) id = false) : has ss id = false := by
  rw [List.take_of_length_le h] at h0; exact h0

def IdxSay (b : Bool) (e : Ending) : Prop := ∃ r : Int, e = .returned (.int .i64 r) ∧ decide (0 ≤ r) = b
set_option maxHeartbeats 1000000 in
theorem index_any (ao : Option Addr) (cap : Nat) (ss : List ByteArray) (id : ByteArray) (w : World) (hs : StrRow w ao ss) (hl : ss.length ≤ 1048576) :
    Calls Try.prog 13 #[.slice ao ss.length cap, .string id] w fun e w' => IdxSay (has ss id) e ∧ w = w' := by
  have HK : Hid (StrRow w ao ss) := hs
  clear hs
  go_enter Try.func13, Try.ntmps13
  go_wp2
  go_loop [8] (fun i => ∃ (k : Nat), k ≤ ss.length ∧ i = .int .i64 k ∧ Hid (has (ss.take k) id = false)) (fun i => ss.length - (intOf i).toNat)
  case atStart => exact ⟨0, Nat.zero_le _, rfl, has_zero _ _⟩
  case round =>
    obtain ⟨k, hk, rfl, HM⟩ := hrel
    by_cases hlt : k < ss.length
    · obtain ⟨b, off, rfl, hc⟩ := HK.out k hlt
      cases he : (id.toList == ss[k].toList)
      · have HM2 : Hid (has (ss.take (k + 1)) id = false) := has_miss ss id k hlt he HM.out
        generalize ss[k] = s at *
        go_wp2
        go_round
        case rel => exact ⟨k + 1, by omega, by go_num, HM2⟩
        case measure => simp [intOf]; omega
      · have HM2 : Hid (has ss id = true) := has_hit ss id k hlt he
        generalize ss[k] = s at *
        go_wp2
        go_ret
        exact ⟨⟨_, rfl, by rw [HM2.out]; simp⟩, rfl⟩
    · have HM2 : Hid (has ss id = false) := has_end ss id k (by omega) HM.out
      go_wp2
      go_ret
      exact ⟨⟨-1, rfl, by rw [HM2.out]; decide⟩, rfl⟩

set_option maxHeartbeats 1000000 in
theorem contains_any (ao : Option Addr) (cap : Nat) (ss : List ByteArray) (id : ByteArray) (w : World) (hs : StrRow w ao ss) (hl : ss.length ≤ 1048576) :
    Calls Try.prog 10 #[.slice ao ss.length cap, .string id] w fun e w' => e = .returned (.bool (has ss id)) ∧ w' = w := by
  have HK : Hid (StrRow w ao ss) := hs
  clear hs
  go_enter Try.func10, Try.ntmps10
  go_wp2_with (go_at_call 13; refine (index_any ao cap ss id _ HK.out hl).mono ?_; rintro e w1 ⟨⟨r, rfl, hr⟩, rfl⟩; have HR : Hid (decide (0 ≤ r) = has ss id) := hr; clear hr)
  go_ret
  exact ⟨ret_bool (Hid.out (by assumption)), rfl⟩
end Go.Proofs.Qxb6612516a.Sc
