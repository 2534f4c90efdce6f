/- WALKS of the small functions of the export file. -/
import Derived.Test.Qxb6612221aClE
namespace Go.Proofs.Qxb6612221a.Cl
open Go.RowKit
attribute [local go_sem ↓] Go.wp_at_zero Go.wp_at_succ
abbrev logpOf (sm : Bool) (lB : Nat) : Value := .pointer (if sm = true then some ⟨lB, 0, none⟩ else none)
set_option maxRecDepth 100000 in
set_option maxHeartbeats 4000000 in
theorem newRun_any (sm : Bool) (sB lB n c : Nat) (ao : Option Addr) (nx : Int) (w : World) :
    Calls Try.prog 13 #[.pointer (some ⟨sB, 0, none⟩), .int .i64 nx, .slice ao n c, .pointer (if sm = true then some ⟨lB, 0, none⟩ else none)] w fun e w' => e = .returned (.pointer (some ⟨w.heap.size + 1, 0, none⟩)) ∧
      w' = (w.alloc (.cells #[.pointer (if sm = true then some ⟨lB, 0, none⟩ else none)] 44)).alloc (.cells (runCells sB (sendOf sm w.heap.size) nx (.slice ao n c)) 103) := by
  cases sm
  · go_enter Try.func13, Try.ntmps13
    go_wp2
    go_ret
    exact ⟨rfl, rfl⟩
  · go_enter Try.func13, Try.ntmps13
    go_wp2
    go_ret
    exact ⟨rfl, rfl⟩
set_option maxHeartbeats 4000000 in
theorem newKind_any (kd : ByteArray) (pt : Bool) (w : World) :
    Calls Try.prog 15 #[.string kd, .bool pt] w fun e w' => e = .returned (.pointer (some ⟨w.heap.size, 0, none⟩)) ∧ w' = w.alloc (.cells #[.nilFunc, .string ⟨#[]⟩, .string kd, .bool pt, .func (.func 31) #[] #[]] 107) := by
  go_enter Try.func15, Try.ntmps15
  go_wp2
  go_ret
  exact ⟨rfl, rfl⟩
set_option maxHeartbeats 4000000 in
theorem newStreamed_any (kB : Nat) (ip : Option Addr) (w : World) :
    Calls Try.prog 14 #[.pointer (some ⟨kB, 0, none⟩), .pointer ip] w fun e w' => e = .returned (.pointer (some ⟨w.heap.size, 0, none⟩)) ∧ w' = w.alloc (.cells #[.pointer (some ⟨kB, 0, none⟩), .pointer ip, .slice none 0 0, .int .i64 0, .int .i64 0] 100) := by
  go_enter Try.func14, Try.ntmps14
  go_wp2
  go_ret
  exact ⟨rfl, rfl⟩
theorem textItem_any (tB : Nat) (v : Value) (w : World) (h : w.cell? ⟨tB, 1, none⟩ = some v) :
    Calls Try.prog 17 #[.pointer (some ⟨tB, 0, none⟩)] w fun e w' => e = .returned v ∧ w = w' := by
  go_enter Try.func17, Try.ntmps17
  go_wp2
  go_ret
  exact ⟨rfl, rfl⟩
theorem itemDone_any (b : Nat) (v : Value) (w : World) (h : w.cell? ⟨b, 12, none⟩ = some v) :
    Calls Try.prog 18 #[.pointer (some ⟨b, 0, none⟩)] w fun e w' => e = .returned v ∧ w = w' := by
  go_enter Try.func18, Try.ntmps18
  go_wp2
  go_ret
  exact ⟨rfl, rfl⟩
theorem runOpen_any (b : Nat) (v : Value) (w : World) (h : w.cell? ⟨b, 13, none⟩ = some v) :
    Calls Try.prog 21 #[.pointer (some ⟨b, 0, none⟩)] w fun e w' => e = .returned v ∧ w = w' := by
  go_enter Try.func21, Try.ntmps21
  go_wp2
  go_ret
  exact ⟨rfl, rfl⟩
theorem runNext_any (b : Nat) (v : Value) (w : World) (h : w.cell? ⟨b, 2, none⟩ = some v) :
    Calls Try.prog 22 #[.pointer (some ⟨b, 0, none⟩)] w fun e w' => e = .returned v ∧ w = w' := by
  go_enter Try.func22, Try.ntmps22
  go_wp2
  go_ret
  exact ⟨rfl, rfl⟩
set_option maxRecDepth 100000 in
set_option maxHeartbeats 4000000 in
theorem itemOf_any (b : Nat) (ty id st rt : ByteArray) (ix : Int) (dn : Bool) (w : World) (h : w.heap[b]? = some (.cells (siCells ty id st rt ix dn) 94 (0, 0))) :
    Calls Try.prog 20 #[.pointer (some ⟨b, 0, none⟩)] w fun e w' => e = .returned (.agg (itemCells ty id st rt)) ∧ w' = w.alloc (.cells (itemCells ty id st rt) 37) := by
  have lb := lt_of_look h
  have hne : b ≠ w.heap.size := by omega
  have hne' : w.heap.size ≠ b := by omega
  have c0 : w.cell? ⟨b, 0, none⟩ = some (.string ty) := cell_look h
  have c1 : w.cell? ⟨b, 1, none⟩ = some (.string id) := cell_look h
  have c2 : w.cell? ⟨b, 2, none⟩ = some (.string st) := cell_look h
  have c3 : w.cell? ⟨b, 3, none⟩ = some (.string ⟨#[]⟩) := cell_look h
  have c4 : w.cell? ⟨b, 4, none⟩ = some (.slice none 0 0) := cell_look h
  have c5 : w.cell? ⟨b, 5, none⟩ = some (.string ⟨#[]⟩) := cell_look h
  have c6 : w.cell? ⟨b, 6, none⟩ = some (.string ⟨#[]⟩) := cell_look h
  have c7 : w.cell? ⟨b, 7, none⟩ = some (.string ⟨#[]⟩) := cell_look h
  have c8 : w.cell? ⟨b, 8, none⟩ = some (.string ⟨#[]⟩) := cell_look h
  have c9 : w.cell? ⟨b, 9, none⟩ = some (.bool false) := cell_look h
  have c10 : w.cell? ⟨b, 10, none⟩ = some (.string rt) := cell_look h
  clear h
  go_enter Try.func20, Try.ntmps20
  go_wp2
  exact bodyPost_ret (v := .agg (itemCells ty id st rt)) (by simp [results, Try.results20, go_sem]) rfl ⟨rfl, rfl⟩
end Go.Proofs.Qxb6612221a.Cl
