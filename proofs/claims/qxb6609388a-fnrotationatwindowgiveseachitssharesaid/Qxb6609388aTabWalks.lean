/- WALKS of the small functions on the road of 'FnRotationTabledWhenEveryShareIsShort'. -/
import Derived.Test.Qxb6609388aRows
import Derived.WalkKit
import Derived.ProofKit
import Derived.Below
import Derived.RegionTactic
import Derived.Deep.QuietTactic
import Derived.BigQuiet
import Derived.Outline
import Derived.Test.Qxb6609388aTabPlain
namespace Go.Proofs.Qxb6609388a.Tab
open Go.RowKit
theorem below_drewN {B : Nat} {a w : World} (h : Below B a w) (n : Nat) : Below B a (w.drewN n) := h.trans ⟨rfl, rfl, rfl, Nat.le_refl _, fun _ _ => rfl⟩

set_option maxHeartbeats 400000 in
/-- '(*rotation).tabled' -/
theorem tabled_any (b off : Nat) (p s : Int) (w : World) (h0 : w.cell? ⟨b, off, none⟩ = some (.int .u64 p)) (h1 : w.cell? ⟨b, off + 1, none⟩ = some (.int .i64 s))
    (s0 : 0 ≤ s) (s1 : s ≤ 65536) :
    Calls Try.prog 12 #[.pointer (some ⟨b, off, none⟩)] w fun e w' => e = .returned (.bool (decide (p ≤ 128 * s))) ∧ ∃ n, w' = w.drewN n := by
  go_enter Try.func12, Try.ntmps12
  go_wp2
  go_quiet (fail)
  go_wp2
  go_ret
  exact ⟨rfl, _, rfl⟩

/-- 'ZZtabled' -/
theorem zztabled_any (b off : Nat) (p s : Int) (w : World) (h0 : w.cell? ⟨b, off, none⟩ = some (.int .u64 p)) (h1 : w.cell? ⟨b, off + 1, none⟩ = some (.int .i64 s))
    (s0 : 0 ≤ s) (s1 : s ≤ 65536) :
    Calls Try.prog 7 #[.pointer (some ⟨b, off, none⟩)] w fun e w' => e = .returned (.bool (decide (p ≤ 128 * s))) ∧ ∃ n, w' = w.drewN n := by
  go_enter Try.func7, Try.ntmps7
  go_wp2_with (go_at_call 12; refine (tabled_any b off p s _ h0 h1 s0 s1).mono ?_; rintro e w' ⟨rfl, n, rfl⟩)
  go_ret
  exact ⟨rfl, _, rfl⟩

/-- 'ZZnewRotation': the four cells of a rotation, in new memory -/
theorem zznew_any (p s : Int) (w : World) :
    Calls Try.prog 8 #[.int .u64 p, .int .i64 s] w fun e w' => e = .returned (.pointer (some ⟨w.heap.size, 0, none⟩)) ∧ w' = w.alloc (.cells #[.int .u64 p, .int .i64 s, .slice none 0 0, .slice none 0 0] 38) := by
  go_enter Try.func8, Try.ntmps8
  go_wp2
  go_ret
  exact ⟨rfl, rfl⟩
end Go.Proofs.Qxb6609388a.Tab
