/- WALKS of the tool quota. -/
import Derived.Test.Qxb6612221aRows
import Derived.WalkKit
import Derived.ProofKit
import Derived.Below
import Derived.RegionTactic
import Derived.Deep.QuietTactic
import Derived.BigQuiet
import Derived.Outline
import Derived.WalkSpells
namespace Go.Proofs.Qxb6612221a.Sp
open Go.RowKit

theorem below_drewN {B : Nat} {a w : World} (h : Below B a w) (n : Nat) : Below B a (w.drewN n) := h.trans ⟨rfl, rfl, rfl, Nat.le_refl _, fun _ _ => rfl⟩
theorem ret_bool {a b : Bool} (h : a = b) : Ending.returned (.bool a) = .returned (.bool b) := by rw [h]

set_option maxHeartbeats 400000 in
theorem spent_nil (u : Int) (w : World) :
    Calls Try.prog 26 #[.agg #[.pointer none, .int .i64 u]] w fun e w' => e = .returned (.bool false) ∧ Below w.heap.size w w' := by
  go_enter Try.func26, Try.ntmps26
  go_wp2
  go_quiet (fail)
  go_wp2
  go_ret
  exact ⟨rfl, below_drewN ((Below.refl _ _).alloc (Nat.le_refl _) _) _⟩

set_option maxHeartbeats 400000 in
theorem spent_some (b off : Nat) (c u : Int) (w : World) (h : w.cell? ⟨b, off, none⟩ = some (.int .i64 c)) :
    Calls Try.prog 26 #[.agg #[.pointer (some ⟨b, off, none⟩), .int .i64 u]] w fun e w' => e = .returned (.bool (decide (c ≤ u))) ∧ Below w.heap.size w w' := by
  have h' : ∀ o, (w.alloc o).cell? ⟨b, off, none⟩ = some (.int .i64 c) := fun o => (((Below.refl _ _).alloc (Nat.le_refl _) o).cell (World.block_lt_of_cell? _ _ h)).trans h
  go_enter Try.func26, Try.ntmps26
  go_wp2
  go_quiet (fail)
  go_wp2
  go_ret
  exact ⟨rfl, below_drewN ((Below.refl _ _).alloc (Nat.le_refl _) _) _⟩

/-- a limit: none, or a number in memory -/
def LimP (w : World) (p : Value) (o : Option Int) : Prop := (p = .pointer none ∧ o = none) ∨ ∃ b off c, p = .pointer (some ⟨b, off, none⟩) ∧ w.cell? ⟨b, off, none⟩ = some (.int .i64 c) ∧ o = some c
/-- spent? -/
def sp (o : Option Int) (u : Int) : Bool := match o with | none => false | some c => decide (c ≤ u)
theorem LimP.below {w w' : World} {p : Value} {o : Option Int} (h : LimP w p o) (hb : Below w.heap.size w w') : LimP w' p o := by
  rcases h with h | ⟨b, off, c, h1, h2, h3⟩
  · exact .inl h
  · exact .inr ⟨b, off, c, h1, (hb.cell (World.block_lt_of_cell? _ _ h2)).trans h2, h3⟩

theorem spent_any (p : Value) (o : Option Int) (u : Int) (w : World) (h : LimP w p o) :
    Calls Try.prog 26 #[.agg #[p, .int .i64 u]] w fun e w' => e = .returned (.bool (sp o u)) ∧ Below w.heap.size w w' := by
  rcases h with ⟨rfl, rfl⟩ | ⟨b, off, c, rfl, h, rfl⟩
  · exact spent_nil u w
  · exact spent_some b off c u w h

set_option maxHeartbeats 400000 in
theorem zzspent_any (p : Value) (o : Option Int) (u : Int) (w : World) (h : LimP w p o) :
    Calls Try.prog 6 #[.agg #[p, .int .i64 u]] w fun e w' => e = .returned (.bool (sp o u)) ∧ Below w.heap.size w w' := by
  have hb : Below w.heap.size w (w.alloc (.cells #[p, .int .i64 u] 25)) := (Below.refl _ _).alloc (Nat.le_refl _) _
  have HL : Hid (LimP (w.alloc (.cells #[p, .int .i64 u] 25)) p o) := h.below hb
  have HB : Hid (Below w.heap.size w (w.alloc (.cells #[p, .int .i64 u] 25))) := hb
  obtain ⟨pa, rfl⟩ : ∃ pa, p = .pointer pa := by
    rcases h with ⟨h, _⟩ | ⟨b, off, c, h, _⟩
    · exact ⟨_, h⟩
    · exact ⟨_, h⟩
  clear h hb
  go_enter Try.func6, Try.ntmps6
  go_wp2_with (go_at_call 26; refine (spent_any _ o u _ (by exact HL.out)).mono ?_; rintro e w1 ⟨rfl, hb1⟩; have HB1 : Hid (Below w.heap.size w w1) := HB.out.trans (hb1.mono HB.out.size); clear hb1)
  go_ret
  exact ⟨rfl, HB1.out⟩

set_option maxHeartbeats 400000 in
theorem quota_any (p : Option Addr) (u : Int) (w : World) :
    Calls Try.prog 7 #[.pointer p, .int .i64 u] w fun e w' => e = .returned (.agg #[.pointer p, .int .i64 u]) ∧ Below w.heap.size w w' := by
  go_enter Try.func7, Try.ntmps7
  go_wp2
  refine bodyPost_ret (v := .agg #[.pointer p, .int .i64 u]) (by simp [results, Try.results7, go_sem]) rfl ⟨rfl, ?_⟩
  exact (Below.refl _ _).alloc (Nat.le_refl _) _
end Go.Proofs.Qxb6612221a.Sp
