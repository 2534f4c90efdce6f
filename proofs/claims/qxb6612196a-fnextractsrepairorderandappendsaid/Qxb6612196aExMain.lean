/- THE LAW's OWN WALK. -/
import Derived.Test.Qxb6612196aExB
import Derived.Test.Qxb6612196aExC
import Derived.Test.Qxb6612196aExRows
import Derived.Test.Qxb6612196aExLaw
import Derived.Laws.CopyOwn
import Derived.Deep.DeepCutAuto
import Derived.Deep.CutBlock
namespace Go.Proofs.Qxb6612196a.Ex
open Go.RowKit ExPlain Go.WideShapes

theorem info9 : (Try.prog.info? 9).map (fun i => (i.zero, i.size, i.bytes)) = some (some (.string ⟨#[]⟩), 1, 16) := by kernel_rfl
theorem info22 : (Try.prog.info? 22).map (fun i => (i.zero, i.size, i.bytes)) = some (some (.slice none 0 0), 1, 24) := by kernel_rfl

theorem info9s : (Try.prog.info? 9).map (·.size) = some 1 := by kernel_rfl
/-- the names, copied or nil -/
def NmIs (ns : List ByteArray) (w : World) (nm : Value) (wx : World) : Prop := ∃ a c, nm = .slice a ns.length c ∧ StrRow wx a ns ∧ Below w.heap.size w wx
theorem copy_src {w : World} {x : Addr} {ns : List ByteArray} (h : StrRow w (some x) ns) (o : Obj) : ∀ j v, (ns.map Value.string)[j]? = some v → (w.alloc o).cell? (x.add j) = some v := by
  intro j v hj
  rw [List.getElem?_map] at hj
  obtain ⟨s, hs, rfl⟩ := Option.map_eq_some_iff.1 hj
  obtain ⟨hlt, rfl⟩ := List.getElem?_eq_some_iff.1 hs
  obtain ⟨b, off, h1, h2⟩ := h j hlt
  obtain rfl : x = ⟨b, off, none⟩ := by simpa using h1
  rw [add_plain]
  exact cell_below ((Below.refl _ _).alloc (Nat.le_refl _) _) h2
theorem copied {w : World} {g : Nat} {ns : List ByteArray} (h : w.heap[g]? = some (.cells (splice (madeCells #[.string ⟨#[]⟩] ns.length).toList 0 (ns.map Value.string)).toArray 9 (0, 0))) : StrRow w (some ⟨g, 0, none⟩) ns := by
  have e : splice (madeCells #[Value.string ⟨#[]⟩] ns.length).toList 0 (ns.map Value.string) = ns.map Value.string := by
    unfold splice
    rw [List.drop_eq_nil_of_le (by simp [size_madeCells])]
    simp
  rw [e] at h
  intro i hi
  refine ⟨g, 0, rfl, ?_⟩
  simp [World.cell?, h, hi]

theorem mk0 (t e : TypeId) (z : Value) (bytes : Nat) (ht : Try.prog.underlying t = some (.slice e)) (hinfo : (Try.prog.info? e).map (fun i => (i.zero, i.size, i.bytes)) = some (some z, 1, bytes)) (hz1 : z.cells = #[z]) (n : Nat) (hb : bytes * n ≤ 281474976710656) (h63 : n ≤ 9223372036854775807) (w : World) :
    (Instr.makeSlice t (.int .i64 0) (.int .i64 (n : Int))).run Try.prog w = .ok (.slice (some ⟨w.heap.size, 0, none⟩) 0 n) (w.alloc (.cells (madeCells #[z] n) e)) := by
  obtain ⟨i, hi, hz, hs, hby⟩ := info_parts hinfo
  have hb' : (i.bytes : Int) * (n : Int) ≤ 281474976710656 := by
    have h : ((i.bytes * n : Nat) : Int) ≤ 281474976710656 := by rw [hby]; omega
    rwa [Int.natCast_mul] at h
  have hr := run_make (P := Try.prog) w t e i z ht hi hz .i64 .i64 0 n (by omega) (by omega) hb' (by omega)
  simp only [Int.toNat_natCast, hs, Nat.mul_one, hz1, Int.toNat_zero] at hr
  exact hr
theorem mk0_9 (n : Nat) (h : n ≤ 1048576) (w : World) : (Instr.makeSlice 22 (.int .i64 0) (.int .i64 (n : Int))).run Try.prog w = .ok (.slice (some ⟨w.heap.size, 0, none⟩) 0 n) (w.alloc (.cells (madeCells #[.string ⟨#[]⟩] n) 9)) :=
  mk0 22 9 _ 16 Try.underlying22 info9 rfl n (by omega) (by omega) w
theorem mk0_22 (n : Nat) (h : n ≤ 1048576) (w : World) : (Instr.makeSlice 23 (.int .i64 0) (.int .i64 (n : Int))).run Try.prog w = .ok (.slice (some ⟨w.heap.size, 0, none⟩) 0 n) (w.alloc (.cells (madeCells #[.slice none 0 0] n) 22)) :=
  mk0 23 22 _ 24 Try.underlying23 info22 rfl n (by omega) (by omega) w

/-- WHAT HOLDS AHEAD OF ROUND k OF THE FIRST LOOP -/
structure Loop1 (ns : List ByteArray) (rs : List (List ByteArray)) (arch : ByteArray) (wb : World) (k q : Nat) (vs : List Value) (wr : World) : Prop where
  len : (repair ((lines ns rs).take k) arch).length = q
  rep : Rep wr wb.heap.size ns.length (repair ((lines ns rs).take k) arch) vs
  bel : Below wb.heap.size wb wr
theorem loop1_start (ns : List ByteArray) (rs : List (List ByteArray)) (arch : ByteArray) (wb : World) (hn : ns.length ≤ maxLen) :
    Loop1 ns rs arch wb 0 0 [] ((wb.alloc (.cells (madeCells #[.string ⟨#[]⟩] ns.length) 9)).alloc (.cells (madeCells #[.slice none 0 0] ns.length) 22)) :=
  ⟨rfl, rep_start wb ns.length hn, ((Below.refl _ _).alloc (Nat.le_refl _) _).alloc (by simp) _⟩

theorem fixL_len {arch nm : ByteArray} {ol row : List ByteArray} (h : fixL arch (nm, ol) = (nm, row)) (hl : ol.length ≤ 1048576) : row.length ≤ 1048577 := by
  unfold fixL at h
  split at h
  · simp only [Prod.mk.injEq, true_and] at h; rw [← h]; simp; omega
  · simp only [Prod.mk.injEq, true_and] at h; rw [← h]; omega
theorem argsAt_is (ar : Option Addr) (cr : Nat) (rs : List (List ByteArray)) (AV : Nat → Option Addr × Nat) (q : Nat) (Z : Int) (hZ : Z = q) (w : World) (hr : ArgsV w ar rs AV) {ai : Option Addr} {ci : Nat} {ol : List ByteArray} (h1 : AV q = (ai, ci)) (h2 : rs.getD q [] = ol) :
    Calls Try.prog 7 #[.slice ar rs.length cr, .int .i64 Z] w fun e w' => e = .returned (.slice ai ol.length ci) ∧ w = w' := by
  have h := argsAt_any ar cr rs AV q Z hZ w hr
  rw [h1, h2] at h
  exact h.mono fun _ _ h => ⟨h.1, h.2.symm⟩
/-- what is known where the two ways of 'if names[i] == arches' meet -/
def Cut1 (ls : List Line) (vs : List Value) (R n : Nat) (row : List ByteArray) (wo : World) (av : Value) (wx : World) : Prop :=
  ∃ ai ci, av = .slice ai row.length ci ∧ StrA wx (OffR R) ai row ∧ Rep wx R n ls vs ∧ Below wo.heap.size wo wx
theorem mk_9 (n : Nat) (h : n ≤ 1048577) (w : World) : (Instr.makeSlice 22 (.int .i64 (n : Int)) (.int .i64 (n : Int))).run Try.prog w = .ok (.slice (some ⟨w.heap.size, 0, none⟩) n n) (w.alloc (.cells (madeCells #[.string ⟨#[]⟩] n) 9)) :=
  run_make_row' 22 9 _ 16 Try.underlying22 info9 rfl .i64 .i64 n (by omega) (by omega) w
theorem mk_22 (n : Nat) (h : n ≤ 1048577) (w : World) : (Instr.makeSlice 23 (.int .i64 (n : Int)) (.int .i64 (n : Int))).run Try.prog w = .ok (.slice (some ⟨w.heap.size, 0, none⟩) n n) (w.alloc (.cells (madeCells #[.slice none 0 0] n) 22)) :=
  run_make_row' 23 22 _ 24 Try.underlying23 info22 rfl .i64 .i64 n (by omega) (by omega) w
/-- the copy of the options, t of them laid -/
structure Inner (ol : List ByteArray) (wo : World) (t : Nat) (wi : World) : Prop where
  row : wi.rowIs wo.heap.size 9 (ol.length + 1) (fun x => if x < t then .string (ol.getD x ByteArray.empty) else .string ⟨#[]⟩)
  bel : Below wo.heap.size wo wi
theorem inner_start (ol : List ByteArray) (wo : World) : Inner ol wo 0 (wo.alloc (.cells (madeCells #[.string ⟨#[]⟩] (ol.length + 1)) 9)) :=
  ⟨(World.rowIs_made wo _ _ _).congr (fun i _ => by simp), (Below.refl _ _).alloc (Nat.le_refl _) _⟩
theorem inner_step {ol : List ByteArray} {wo wi : World} {t : Nat} (h : Inner ol wo t wi) (ht : t < ol.length) : Inner ol wo (t + 1) (wi.setCell ⟨wo.heap.size, t, none⟩ (.string ol[t])) := by
  refine ⟨(h.row.set t (.string ol[t])).congr (fun i _ => ?_), h.bel.setCell (Nat.le_refl _) _⟩
  by_cases e : i = t
  · subst e; simp [List.getD_eq_getElem?_getD, List.getElem?_eq_getElem ht]
  · by_cases e2 : i < t
    · simp [e, e2, show i < t + 1 by omega]
    · simp [e, e2, show ¬ i < t + 1 by omega]
theorem inner_end {ol : List ByteArray} {wo wi : World} {arch : ByteArray} {ls : List Line} {vs : List Value} {R n : Nat} (h : Inner ol wo ol.length wi) (hrep : Rep wo R n ls vs) (hz : R + 1 < wo.heap.size) :
    Cut1 ls vs R n (ol ++ [arch]) wo (.slice (some ⟨wo.heap.size, 0, none⟩) (ol.length + 1) (ol.length + 1)) (wi.setCell ⟨wo.heap.size, ol.length, none⟩ (.string arch)) := by
  have hb : Below wo.heap.size wo (wi.setCell ⟨wo.heap.size, ol.length, none⟩ (.string arch)) := h.bel.setCell (Nat.le_refl _) _
  refine ⟨some ⟨wo.heap.size, 0, none⟩, ol.length + 1, by simp, ?_, hrep.below hb, hb⟩
  intro i hi
  refine ⟨wo.heap.size, 0, rfl, fun hO => by rcases hO with e | e <;> omega, ?_⟩
  have hrow := h.row.set ol.length (.string arch)
  have hi' : i < ol.length + 1 := by simpa using hi
  rw [Nat.zero_add, hrow.cell hi']
  by_cases e : i = ol.length
  · subst e; simp
  · have e2 : i < ol.length := by omega
    simp [e, e2, List.getElem_append_left e2, List.getD_eq_getElem?_getD]

theorem loop1_step {ns : List ByteArray} {rs : List (List ByteArray)} {arch : ByteArray} {wb wo wc w1 w2 : World} {k q : Nat} {vs : List Value} {nm : ByteArray} {ol row : List ByteArray} {ai : Option Addr} {ci : Nat}
    (h : Loop1 ns rs arch wb k q vs wo) (hk : k < ns.length) (hnm : nm = ns[k]) (hol : rs.getD k [] = ol) (bn : (nm.toList == [110, 111, 101, 120, 116, 114, 97, 99, 116]) = false) (hrow : fixL arch (nm, ol) = (nm, row))
    (hsa : StrA wc (OffR wb.heap.size) ai row) (hrep : Rep wc wb.heap.size ns.length (repair ((lines ns rs).take k) arch) vs) (hb : Below wo.heap.size wo wc) (hl : row.length ≤ 1073741824)
    (ho1 : w1.ownsRow wb.heap.size 9 1 (.slice (some ⟨wb.heap.size, 0, none⟩) (q + 1) ns.length) (q + 1) ((repair ((lines ns rs).take k) arch).map (fun l => Value.string l.1) ++ [.string nm])) (hg1 : (wc.alloc (.cells #[.string nm] 9)).grownBy w1 (some wb.heap.size))
    (ho2 : w2.ownsRow wb.heap.size 22 1 (.slice (some ⟨wb.heap.size + 1, 0, none⟩) (q + 1) ns.length) (q + 1) (vs ++ [.slice ai row.length ci])) (hg2 : (w1.alloc (.cells #[.slice ai row.length ci] 22)).grownBy w2 (some (wb.heap.size + 1))) :
    Loop1 ns rs arch wb (k + 1) (q + 1) (vs ++ [.slice ai row.length ci]) w2 := by
  have e : repair ((lines ns rs).take (k + 1)) arch = repair ((lines ns rs).take k) arch ++ [(nm, row)] := by
    rw [lines_take ns rs k hk, hol, ← hnm, repair_keep _ _ _ (by exact bn), hrow]
  rw [← h.len] at ho1 ho2
  obtain ⟨r1, r2⟩ := rep_step hrep hsa hl ho1 hg1 ho2 hg2
  refine ⟨by rw [e, List.length_append, h.len]; rfl, by rw [e]; exact r1, (h.bel.trans (hb.mono h.bel.size)).trans r2⟩
theorem loop1_skip {ns : List ByteArray} {rs : List (List ByteArray)} {arch : ByteArray} {wb wo : World} {k q : Nat} {vs : List Value} {nm : ByteArray}
    (h : Loop1 ns rs arch wb k q vs wo) (hk : k < ns.length) (hnm : nm = ns[k]) (bn : (nm.toList == [110, 111, 101, 120, 116, 114, 97, 99, 116]) = true) : Loop1 ns rs arch wb (k + 1) q vs wo := by
  have e : repair ((lines ns rs).take (k + 1)) arch = repair ((lines ns rs).take k) arch := by
    rw [lines_take ns rs k hk, ← hnm, repair_drop _ _ _ (by exact bn)]
  exact ⟨by rw [e]; exact h.len, by rw [e]; exact h.rep, h.bel⟩

theorem zz_is (an ar : Option Addr) (cn cr : Nat) (ns : List ByteArray) (rs : List (List ByteArray)) (arch : ByteArray) (q1 q2 : Nat) (r : Bool) (w : World) (hn : StrRow w an ns) (hr : RowRow w ar rs) (h1 : ns.length = q1) (h2 : rs.length = q2) (hl : q1 ≤ 1073741824) (hl2 : q2 ≤ 1073741824) (hx : ext (lines ns rs) arch = r) :
    Calls Try.prog 6 #[.slice an q1 cn, .slice ar q2 cr, .string arch] w fun e w' => e = .returned (.bool r) ∧ Below w.heap.size w w' := by
  subst h1; subst h2; subst hx
  exact zz_any an ar cn cr ns rs arch w hn hr hl hl2
/-- a row whose first k cells are laid -/
def upTo (k : Nat) (F : Nat → Value) (z : Value) : Nat → Value := fun i => if i < k then F i else z
theorem upTo_set {w : World} {b n k : Nat} {t : TypeId} {F : Nat → Value} {z v : Value} (h : w.rowIs b t n (upTo k F z)) (hv : F k = v) : (w.setCell ⟨b, k, none⟩ v).rowIs b t n (upTo (k + 1) F z) := by
  subst hv
  refine (h.set k (F k)).congr (fun i _ => ?_)
  unfold upTo
  by_cases e : i = k
  · subst e; simp
  · by_cases e2 : i < k
    · simp [e, e2, show i < k + 1 by omega]
    · simp [e, e2, show ¬ i < k + 1 by omega]
def revF (ns : List ByteArray) (i : Nat) : Value := .string (ns.getD (ns.length - 1 - i) ByteArray.empty)
def revG (n : Nat) (rs : List (List ByteArray)) (AV : Nat → Option Addr × Nat) (i : Nat) : Value := .slice (AV (n - 1 - i)).1 (rs.getD (n - 1 - i) []).length (AV (n - 1 - i)).2
theorem revF_at (ns : List ByteArray) (k : Nat) (h : k < ns.length) : revF ns k = .string (ns[ns.length - 1 - k]'(by omega)) := by
  unfold revF; rw [List.getD_eq_getElem?_getD, List.getElem?_eq_getElem (by omega)]; rfl
structure Two (wd : World) (len k : Nat) (F G : Nat → Value) (wr : World) : Prop where
  row1 : wr.rowIs wd.heap.size 9 len (upTo k F (.string ⟨#[]⟩))
  row2 : wr.rowIs (wd.heap.size + 1) 22 len (upTo k G (.slice none 0 0))
  bel : Below wd.heap.size wd wr
theorem two_start (wd : World) (len : Nat) (F G : Nat → Value) : Two wd len 0 F G ((wd.alloc (.cells (madeCells #[.string ⟨#[]⟩] len) 9)).alloc (.cells (madeCells #[.slice none 0 0] len) 22)) := by
  refine ⟨((World.rowIs_made wd _ _ _).alloc _).congr (fun i _ => by simp [upTo]), ?_, ((Below.refl _ _).alloc (Nat.le_refl _) _).alloc (by simp) _⟩
  have h := World.rowIs_made (wd.alloc (.cells (madeCells #[.string ⟨#[]⟩] len) 9)) (.slice none 0 0) len 22
  have e : (wd.alloc (.cells (madeCells #[.string ⟨#[]⟩] len) 9)).heap.size = wd.heap.size + 1 := by simp
  rw [e] at h
  exact h.congr (fun i _ => by simp [upTo])
theorem two_step {wd wr : World} {len k : Nat} {F G : Nat → Value} {v1 v2 : Value} (h : Two wd len k F G wr) (h1 : F k = v1) (h2 : G k = v2) :
    Two wd len (k + 1) F G ((wr.setCell ⟨wd.heap.size, k, none⟩ v1).setCell ⟨wd.heap.size + 1, k, none⟩ v2) :=
  ⟨(upTo_set h.row1 h1).setOther (by simp) _, upTo_set (h.row2.setOther (by simp) _) h2, (h.bel.setCell (Nat.le_refl _) _).setCell (by simp) _⟩

def fwdF (ns : List ByteArray) (i : Nat) : Value := .string (ns.getD i ByteArray.empty)
def fwdG (rs : List (List ByteArray)) (AV : Nat → Option Addr × Nat) (i : Nat) : Value := .slice (AV i).1 (rs.getD i []).length (AV i).2
theorem fwdF_at (ns : List ByteArray) (k : Nat) (h : k < ns.length) : fwdF ns k = .string ns[k] := by
  unfold fwdF; rw [List.getD_eq_getElem?_getD, List.getElem?_eq_getElem h]; rfl
structure Four (wd : World) (len k : Nat) (F G : Nat → Value) (wr : World) : Prop where
  row1 : wr.rowIs wd.heap.size 9 len (upTo k F (.string ⟨#[]⟩))
  row2 : wr.rowIs (wd.heap.size + 1) 22 len (upTo k G (.slice none 0 0))
  row3 : wr.rowIs (wd.heap.size + 2) 9 len (upTo k F (.string ⟨#[]⟩))
  row4 : wr.rowIs (wd.heap.size + 3) 22 len (upTo k G (.slice none 0 0))
  bel : Below wd.heap.size wd wr
theorem made_at {w : World} {b : Nat} (z : Value) (len : Nat) (t : TypeId) (F : Nat → Value) (hb : w.heap.size = b) : (w.alloc (.cells (madeCells #[z] len) t)).rowIs b t len (upTo 0 F z) := by
  subst hb
  exact (World.rowIs_made w z len t).congr (fun i _ => by simp [upTo])
theorem four_start (wd : World) (len : Nat) (F G : Nat → Value) : Four wd len 0 F G ((((wd.alloc (.cells (madeCells #[.string ⟨#[]⟩] len) 9)).alloc (.cells (madeCells #[.slice none 0 0] len) 22)).alloc (.cells (madeCells #[.string ⟨#[]⟩] len) 9)).alloc (.cells (madeCells #[.slice none 0 0] len) 22)) :=
  ⟨(((made_at _ _ _ _ rfl).alloc _).alloc _).alloc _, ((made_at _ _ _ _ (by simp)).alloc _).alloc _, (made_at _ _ _ _ (by simp)).alloc _, made_at _ _ _ _ (by simp),
    ((((Below.refl _ _).alloc (Nat.le_refl _) _).alloc (by simp) _).alloc (by simp; omega) _).alloc (by simp; omega) _⟩
theorem four_step {wd wr : World} {len k : Nat} {F G : Nat → Value} {v1 v2 : Value} (h : Four wd len k F G wr) (h1 : F k = v1) (h2 : G k = v2) :
    Four wd len (k + 1) F G ((((wr.setCell ⟨wd.heap.size, k, none⟩ v1).setCell ⟨wd.heap.size + 1, k, none⟩ v2).setCell ⟨wd.heap.size + 2, k, none⟩ v1).setCell ⟨wd.heap.size + 3, k, none⟩ v2) :=
  ⟨(((upTo_set h.row1 h1).setOther (by simp) _).setOther (by simp) _).setOther (by simp) _, ((upTo_set (h.row2.setOther (by simp) _) h2).setOther (by simp) _).setOther (by simp) _,
    (upTo_set ((h.row3.setOther (by simp) _).setOther (by simp) _) h1).setOther (by simp) _, upTo_set (((h.row4.setOther (by simp) _).setOther (by simp) _).setOther (by simp) _) h2,
    (((h.bel.setCell (Nat.le_refl _) _).setCell (by simp) _).setCell (by simp) _).setCell (by simp) _⟩

/-! ### the last cells of the four rows -/
theorem ar_list : (⟨#[97, 114, 99, 104, 101, 115]⟩ : ByteArray).toList = arW := by decide +kernel
theorem no_list : (⟨#[110, 111, 101, 120, 116, 114, 97, 99, 116]⟩ : ByteArray).toList = noW := by decide +kernel
def appF (ns : List ByteArray) (x : Value) (i : Nat) : Value := if i = ns.length then x else fwdF ns i
def appG (n : Nat) (rs : List (List ByteArray)) (AV : Nat → Option Addr × Nat) (y : Value) (i : Nat) : Value := if i = n then y else fwdG rs AV i
theorem appF_row {w : World} {b : Nat} {ns : List ByteArray} {t : TypeId} {z : Value} (x : Value) (h : w.rowIs b t (ns.length + 1) (upTo ns.length (fwdF ns) z)) :
    (w.setCell ⟨b, ns.length, none⟩ x).rowIs b t (ns.length + 1) (upTo (ns.length + 1) (appF ns x) z) := by
  have h' : w.rowIs b t (ns.length + 1) (upTo ns.length (appF ns x) z) := h.congr (fun i _ => by
    unfold upTo appF
    by_cases e : i < ns.length
    · simp [e, show ¬ i = ns.length by omega]
    · simp [e])
  exact upTo_set h' (by simp [appF])
theorem appG_row {w : World} {b n : Nat} {rs : List (List ByteArray)} {AV : Nat → Option Addr × Nat} {t : TypeId} {z : Value} (y : Value) (h : w.rowIs b t (n + 1) (upTo n (fwdG rs AV) z)) :
    (w.setCell ⟨b, n, none⟩ y).rowIs b t (n + 1) (upTo (n + 1) (appG n rs AV y) z) := by
  have h' : w.rowIs b t (n + 1) (upTo n (appG n rs AV y) z) := h.congr (fun i _ => by
    unfold upTo appG
    by_cases e : i < n
    · simp [e, show ¬ i = n by omega]
    · simp [e])
  exact upTo_set h' (by simp [appG])
abbrev arS : Value := .string ⟨#[97, 114, 99, 104, 101, 115]⟩
abbrev noS : Value := .string ⟨#[110, 111, 101, 120, 116, 114, 97, 99, 116]⟩
structure Fin0 (we : World) (ns : List ByteArray) (rs : List (List ByteArray)) (AV : Nat → Option Addr × Nat) (wr : World) : Prop where
  row1 : wr.rowIs we.heap.size 9 (ns.length + 1) (upTo (ns.length + 1) (appF ns arS) (.string ⟨#[]⟩))
  row2 : wr.rowIs (we.heap.size + 1) 22 (ns.length + 1) (upTo ns.length (fwdG rs AV) (.slice none 0 0))
  row3 : wr.rowIs (we.heap.size + 2) 9 (ns.length + 1) (upTo ns.length (fwdF ns) (.string ⟨#[]⟩))
  row4 : wr.rowIs (we.heap.size + 3) 22 (ns.length + 1) (upTo ns.length (fwdG rs AV) (.slice none 0 0))
  bel : Below we.heap.size we wr
theorem fin0_of {we wr : World} {ns : List ByteArray} {rs : List (List ByteArray)} {AV : Nat → Option Addr × Nat} (h : Four we (ns.length + 1) ns.length (fwdF ns) (fwdG rs AV) wr) :
    Fin0 we ns rs AV (wr.setCell ⟨we.heap.size, ns.length, none⟩ arS) :=
  ⟨appF_row _ h.row1, h.row2.setOther (by simp) _, h.row3.setOther (by simp) _, h.row4.setOther (by simp) _, h.bel.setCell (Nat.le_refl _) _⟩
structure Fin1 (we : World) (ns : List ByteArray) (rs : List (List ByteArray)) (AV : Nat → Option Addr × Nat) (arch : ByteArray) (wr : World) : Prop where
  row1 : wr.rowIs we.heap.size 9 (ns.length + 1) (upTo (ns.length + 1) (appF ns arS) (.string ⟨#[]⟩))
  row2 : ∃ S, wr.rowIs (we.heap.size + 1) 22 (ns.length + 1) (upTo (ns.length + 1) (appG ns.length rs AV (.slice (some ⟨S, 0, none⟩) 1 1)) (.slice none 0 0)) ∧ we.heap.size + 3 < S ∧ wr.cell? ⟨S, 0, none⟩ = some (.string arch)
  row3 : wr.rowIs (we.heap.size + 2) 9 (ns.length + 1) (upTo ns.length (fwdF ns) (.string ⟨#[]⟩))
  row4 : wr.rowIs (we.heap.size + 3) 22 (ns.length + 1) (upTo ns.length (fwdG rs AV) (.slice none 0 0))
  bel : Below we.heap.size we wr
theorem fin1_of {we w5 : World} {ns : List ByteArray} {rs : List (List ByteArray)} {AV : Nat → Option Addr × Nat} {arch : ByteArray} (h : Fin0 we ns rs AV w5) (hz : we.heap.size + 3 < w5.heap.size) :
    Fin1 we ns rs AV arch ((w5.alloc (.cells #[.string arch] 9)).setCell ⟨we.heap.size + 1, ns.length, none⟩ (.slice (some ⟨w5.heap.size, 0, none⟩) 1 1)) := by
  refine ⟨(h.row1.alloc _).setOther (by simp) _, ⟨w5.heap.size, appG_row _ (h.row2.alloc _), hz, ?_⟩, (h.row3.alloc _).setOther (by simp) _, (h.row4.alloc _).setOther (by simp) _, (h.bel.alloc (by omega) _).setCell (by simp) _⟩
  have e : ((w5.alloc (.cells #[.string arch] 9)).setCell ⟨we.heap.size + 1, ns.length, none⟩ (.slice (some ⟨w5.heap.size, 0, none⟩) 1 1)).cell? ⟨w5.heap.size, 0, none⟩ = (w5.alloc (.cells #[.string arch] 9)).cell? ⟨w5.heap.size, 0, none⟩ :=
    World.cell?_of_block (Below.heap_setCell _ _ _ _ (by simp; omega))
  rw [e]
  simp
structure Fin2 (we : World) (ns : List ByteArray) (rs : List (List ByteArray)) (AV : Nat → Option Addr × Nat) (arch : ByteArray) (wr : World) : Prop where
  row1 : wr.rowIs we.heap.size 9 (ns.length + 1) (upTo (ns.length + 1) (appF ns arS) (.string ⟨#[]⟩))
  row2 : ∃ S, wr.rowIs (we.heap.size + 1) 22 (ns.length + 1) (upTo (ns.length + 1) (appG ns.length rs AV (.slice (some ⟨S, 0, none⟩) 1 1)) (.slice none 0 0)) ∧ wr.cell? ⟨S, 0, none⟩ = some (.string arch)
  row3 : wr.rowIs (we.heap.size + 2) 9 (ns.length + 1) (upTo (ns.length + 1) (appF ns noS) (.string ⟨#[]⟩))
  row4 : wr.rowIs (we.heap.size + 3) 22 (ns.length + 1) (upTo (ns.length + 1) (appG ns.length rs AV (.slice none 0 0)) (.slice none 0 0))
  bel : Below we.heap.size we wr
theorem fin2_of {we wc : World} {ns : List ByteArray} {rs : List (List ByteArray)} {AV : Nat → Option Addr × Nat} {arch : ByteArray} (h : Fin1 we ns rs AV arch wc) :
    Fin2 we ns rs AV arch ((wc.setCell ⟨we.heap.size + 2, ns.length, none⟩ noS).setCell ⟨we.heap.size + 3, ns.length, none⟩ (.slice none 0 0)) := by
  obtain ⟨S, h2, hS, hc⟩ := h.row2
  refine ⟨(h.row1.setOther (by simp) _).setOther (by simp) _, ⟨S, (h2.setOther (by simp) _).setOther (by simp) _, ?_⟩, (appF_row _ h.row3).setOther (by simp) _, appG_row _ (h.row4.setOther (by simp) _), (h.bel.setCell (by simp) _).setCell (by simp) _⟩
  rw [World.cell?_of_block (Below.heap_setCell _ _ _ _ (by simp; omega)), World.cell?_of_block (Below.heap_setCell _ _ _ _ (by simp; omega))]
  exact hc
theorem strRow_app {w : World} {b : Nat} {ns : List ByteArray} {x : ByteArray} {z : Value} (h : w.rowIs b 9 (ns.length + 1) (upTo (ns.length + 1) (appF ns (.string x)) z)) : StrRow w (some ⟨b, 0, none⟩) (ns ++ [x]) :=
  strRow_of_rowIs h (by simp) (fun i hi => by
    have hi' : i < ns.length + 1 := by simpa using hi
    unfold upTo appF
    by_cases e : i = ns.length
    · subst e; simp
    · have e2 : i < ns.length := by omega
      simp [hi', e, fwdF_at ns i e2, List.getElem_append_left e2])
theorem rowRow_app {we w : World} {b n : Nat} {ar : Option Addr} {rs : List (List ByteArray)} {AV : Nat → Option Addr × Nat} {y : List ByteArray} {ya : Option Addr} {yc : Nat} {z : Value} (hv : ArgsV we ar rs AV) (hb : Below we.heap.size we w)
    (h : w.rowIs b 22 (n + 1) (upTo (n + 1) (appG n rs AV (.slice ya y.length yc)) z)) (hy : StrRow w ya y) (hl : y.length ≤ 1073741824) : RowRow w (some ⟨b, 0, none⟩) (padR n rs ++ [y]) :=
  rowRow_of_rowIs h (by simp [padR]) (fun i hi => by
    have hi' : i < n + 1 := by simpa [padR] using hi
    unfold upTo appG
    by_cases e : i = n
    · have e1 : (padR n rs ++ [y])[i] = y := by rw [List.getElem_append_right (by simp [padR]; omega)]; simp
      rw [e1]
      exact ⟨ya, yc, by simp [e], hy, hl⟩
    · have e2 : i < n := by omega
      have e1 : (padR n rs ++ [y])[i] = rs.getD i [] := by rw [List.getElem_append_left (by simpa [padR] using e2)]; simp [padR]
      rw [e1]
      exact ⟨(AV i).1, (AV i).2, by simp [hi', e, fwdG], (hv i).2.2.1.below hb, by have := (hv i).2.2.2; omega⟩)
theorem fin_rows {we w : World} {ns : List ByteArray} {ar : Option Addr} {rs : List (List ByteArray)} {AV : Nat → Option Addr × Nat} {arch : ByteArray} (hv : ArgsV we ar rs AV) (h : Fin2 we ns rs AV arch w) :
    StrRow w (some ⟨we.heap.size, 0, none⟩) (ns ++ [⟨#[97, 114, 99, 104, 101, 115]⟩]) ∧ RowRow w (some ⟨we.heap.size + 1, 0, none⟩) (padR ns.length rs ++ [[arch]]) ∧
    StrRow w (some ⟨we.heap.size + 2, 0, none⟩) (ns ++ [⟨#[110, 111, 101, 120, 116, 114, 97, 99, 116]⟩]) ∧ RowRow w (some ⟨we.heap.size + 3, 0, none⟩) (padR ns.length rs ++ [[]]) ∧ Below we.heap.size we w := by
  obtain ⟨S, h2, hc⟩ := h.row2
  refine ⟨strRow_app h.row1, rowRow_app (y := [arch]) hv h.bel h2 (fun i hi => ?_) (by simp), strRow_app h.row3, rowRow_app (y := []) hv h.bel h.row4 (fun i hi => absurd hi (by simp)) (by simp), h.bel⟩
  have : i = 0 := by simpa using hi
  subst this
  exact ⟨S, 0, rfl, by simpa using hc⟩

set_option maxRecDepth 100000 in
set_option maxHeartbeats 4000000 in
theorem main_core (an ar : Option Addr) (cn cr : Nat) (ns : List ByteArray) (rs : List (List ByteArray)) (arch : ByteArray) (w : World) (hn : StrRow w an ns) (hr : RowRow0 w ar rs) (hnl : ns.length ≤ maxLen) (hrl : rs.length ≤ maxLen) (hnil : an = none → ns.length = 0 ∧ cn = 0) :
    Calls Try.prog 3 #[.slice an ns.length cn, .slice ar rs.length cr, .string arch] w fun e w' => e = .returned (.bool true) ∧ Below w.heap.size w w' := by
  have HN : Hid (StrRow w an ns) := hn
  have HR : Hid (RowRow0 w ar rs) := hr
  have hne := fun w => run_neq_slice_nil_any (P := Try.prog) w 22 9 an ns.length cn 0 0 Try.underlying22
  clear hn hr
  go_enter Try.func3, Try.ntmps3
  go_wp2_with fail
  refine (bytes_any an ar cn cr ns rs arch _ HN.out HR.out hnl hrl).mono ?_
  rintro e w1 ⟨⟨b, rfl, hb⟩, rfl⟩
  cases b
  · go_wp2
    go_ret
    exact ⟨rfl, Below.refl _ _⟩
  obtain ⟨b1, b2, b3⟩ := hb rfl
  have HL : Hid (∀ i (h : i < rs.length), rs[i].length ≤ 1048576) := b3
  clear hb b3 hnl hrl
  go_wp2_with fail
  refine (big_any an ar cn cr ns rs arch _ HN.out HR.out b1 b2 HL.out).mono ?_
  rintro e w2 ⟨⟨b, rfl⟩, rfl⟩
  cases b
  rotate_left
  · go_wp2
    go_ret
    exact ⟨rfl, Below.refl _ _⟩
  obtain ⟨w, rfl⟩ : ∃ w0 : World, w0 = w2 := ⟨_, rfl⟩
  go_upto_if 38 with fail
  go_cut [0] (fun nm wx => NmIs ns w nm wx)
  case first =>
    cases an with
    | none =>
      have HZ : Hid (ns.length = 0 ∧ cn = 0) := hnil rfl
      clear hnil
      go_wp2
      go_meet
      case rel => exact ⟨none, cn, rfl, HN.out, Below.refl _ _⟩
    | some x =>
      have hmk := run_make_row' (P := Try.prog) 22 9 (.string ⟨#[]⟩) 16 Try.underlying22 info9 rfl .i64 .i64 ns.length (by omega) (by omega)
      have HC := fun o => copy_src HN.out o
      go_upto_region 7 with fail
      go_wp2_with (refine wpList_copy_splice rfl (.tmp 42) (.tmp 43) 22 22 rfl 9 Try.underlying22 info9s (some ⟨w.heap.size, 0, none⟩) (some x) ns.length ns.length ns.length cn rfl rfl w.heap.size 0 (madeCells #[.string ⟨#[]⟩] ns.length).toList 9 ?p1 (ns.map Value.string) ?p2 ?p3 ?p4 ?p5 w.heap.size w ?p6 (Nat.le_refl _) ?_)
      case p1 => simpa using heap_alloc_new w _
      case p2 => simp
      case p3 => intro _ j s hj; exact HC _ j (.string s) (by rw [List.getElem?_map, hj]; rfl)
      case p4 => simp [size_madeCells]
      case p5 => intro v hv; simp at hv; obtain ⟨s, _, rfl⟩ := hv; rfl
      case p6 => exact (Below.refl _ _).alloc (Nat.le_refl _) _
      · intro w3 HG3 hb3
        have HB3 : Hid (Below w.heap.size w w3) := hb3
        clear hb3 HC
        go_wp2
        go_meet
        case rel => exact ⟨some ⟨w.heap.size, 0, none⟩, _, rfl, copied HG3.out, HB3.out⟩
  case rest =>
    obtain ⟨wc0, rfl⟩ : ∃ wc0 : World, wc0 = wc := ⟨_, rfl⟩
    obtain ⟨a, c, rfl, hs, hbw⟩ := hcut
    obtain ⟨AV, hav⟩ := argsV_of HR.out HL.out
    have HV : Hid (ArgsV wc0 ar rs AV) := hav.below hbw
    have HS : Hid (StrRow wc0 a ns) := hs
    have HB0 : Hid (Below w.heap.size w wc0) := hbw
    have HR1 : Hid (RowRow wc0 ar rs) := (RowRow0.up HR.out HL.out).below hbw
    clear hav hs hbw HN HR HL hne hnil
    go_wp2_with fail
    refine (zz_any a ar c cr ns rs arch _ HS.out HR1.out (by omega) (by omega)).mono ?_
    rintro e wb ⟨rfl, hbb⟩
    have HBb : Hid (Below wc0.heap.size wc0 wb) := hbb
    clear hbb
    have hm9 := mk0_9 ns.length (by omega)
    have hm22 := mk0_22 ns.length (by omega)
    go_wp2
    have HS1 : Hid (StrRow wb a ns) := HS.out.below HBb.out
    have HV1 : Hid (ArgsV wb ar rs AV) := HV.out.below HBb.out
    obtain ⟨i9, hi9, hz9, hs9, hb9⟩ := info_parts info9
    obtain ⟨i22, hi22, hz22, hs22, hb22⟩ := info_parts info22
    have HI : Hid ((Try.prog.info? 9 = some i9 ∧ i9.size = 1) ∧ (Try.prog.info? 22 = some i22 ∧ i22.size = 1)) := ⟨⟨hi9, hs9⟩, hi22, hs22⟩
    clear hi9 hz9 hs9 hb9 hi22 hz22 hs22 hb22 hm9 hm22
    go_loopw [10, 11, 12] (fun rn ra i wr => ∃ (k q : Nat) (vs : List Value), k ≤ ns.length ∧ q ≤ k ∧ i = .int .i64 k ∧ rn = .slice (some ⟨wb.heap.size, 0, none⟩) q ns.length ∧ ra = .slice (some ⟨wb.heap.size + 1, 0, none⟩) q ns.length ∧ wb.heap.size + 1 < wr.heap.size ∧ Loop1 ns rs arch wb k q vs wr) (fun _ _ i _ => ns.length - (intOf i).toNat)
    case atStart => exact ⟨0, 0, [], Nat.zero_le _, Nat.le_refl _, rfl, rfl, rfl, by simp, loop1_start ns rs arch wb (by unfold maxLen; omega)⟩
    case round =>
      obtain ⟨k, q, vs, hk, hq, rfl, rfl, rfl, hz, hl1⟩ := hrel
      have H1 : Hid (Loop1 ns rs arch wb k q vs wr) := hl1
      clear hl1
      by_cases hlt : k < ns.length
      · obtain ⟨b, off, rfl, hc⟩ := HS1.out k hlt
        have hc' : wr.cell? ⟨b, off + k, none⟩ = some (.string ns[k]) := cell_below H1.out.bel hc
        have HV2 : Hid (ArgsV wr ar rs AV) := HV1.out.below H1.out.bel
        clear hc
        obtain ⟨nm, hnm⟩ : ∃ nm, nm = ns[k] := ⟨_, rfl⟩
        rw [← hnm] at hc'
        have HNM : Hid (nm = ns[k]) := hnm
        clear hnm
        cases bn : (nm.toList == [110, 111, 101, 120, 116, 114, 97, 99, 116])
        · obtain ⟨wo, rfl⟩ : ∃ wo : World, wo = wr := ⟨_, rfl⟩
          have hsa : StrA wo (OffR wb.heap.size) (AV k).1 (rs.getD k []) := (HV1.out k).2.2.1.off (A := OffR wb.heap.size) (fun j hj hO => by rcases hO with h | h <;> omega) |>.keep (fun j hj hA => ⟨H1.out.bel.block j hj, hA⟩)
          have hol4 : (rs.getD k []).length ≤ 1048576 := (HV1.out k).2.2.2
          obtain ⟨ai, ci, hAV⟩ : ∃ ai ci, AV k = (ai, ci) := ⟨_, _, rfl⟩
          obtain ⟨ol, hol⟩ : ∃ ol, rs.getD k [] = ol := ⟨_, rfl⟩
          obtain ⟨row, hrow⟩ : ∃ row, fixL arch (nm, ol) = (nm, row) := ⟨(fixL arch (nm, ol)).2, Prod.ext (fixL_name arch (nm, ol)) rfl⟩
          have hrl : row.length ≤ 1048577 := by rw [hol] at hol4; exact fixL_len hrow hol4
          rw [hAV, hol] at hsa
          rw [hol] at hol4
          have HSA : Hid (StrA wo (OffR wb.heap.size) ai ol) := hsa
          have HAV : Hid (AV k = (ai, ci) ∧ rs.getD k [] = ol) := ⟨hAV, hol⟩
          have HRW : Hid (fixL arch (nm, ol) = (nm, row)) := hrow
          clear hsa hAV hol hrow
          go_upto_if 73 with (go_at_call 7; refine (argsAt_is ar cr rs AV k _ rfl _ HV2.out HAV.out.1 HAV.out.2).mono ?_; rintro e w1 ⟨rfl, rfl⟩)
          go_cut [13] (fun av wx => Cut1 (repair ((lines ns rs).take k) arch) vs wb.heap.size ns.length row wo av wx)
          case first =>
            cases ba : (nm.toList == [97, 114, 99, 104, 101, 115])
            · go_wp2
              go_meet
              case rel =>
                have e : row = ol := by have := HRW.out; simp [fixL, arW, ba] at this; exact this.symm
                subst e
                exact ⟨ai, ci, rfl, HSA.out, H1.out.rep, Below.refl _ _⟩
            · have hmk := mk_9 (ol.length + 1) (by omega)
              have ec : ((ol.length + 1 : Nat) : Int) = (ol.length : Int) + 1 := by omega
              rw [ec] at hmk
              clear ec
              go_wp2
              clear hmk
              go_loopw [15] (fun i wi => ∃ t : Nat, t ≤ ol.length ∧ i = .int .i64 t ∧ wo.heap.size < wi.heap.size ∧ Inner ol wo t wi) (fun i _ => ol.length - (intOf i).toNat)
              case atStart => exact ⟨0, Nat.zero_le _, rfl, by simp, inner_start ol wo⟩
              case round =>
                obtain ⟨t, ht, rfl, hzi, hin⟩ := hrel
                have HIn : Hid (Inner ol wo t wr) := hin
                clear hin
                by_cases htl : t < ol.length
                · obtain ⟨b2, off2, rfl, -, hd⟩ := HSA.out t htl
                  have hd' : wr.cell? ⟨b2, off2 + t, none⟩ = some (.string ol[t]) := cell_below HIn.out.bel hd
                  obtain ⟨v0, hv0⟩ : ∃ v0, wr.cell? ⟨wo.heap.size, t, none⟩ = some v0 := ⟨_, HIn.out.row.cell (by omega)⟩
                  have hf0 := HIn.out.row.frozen t
                  have HN2 := inner_step HIn.out htl
                  clear hd
                  go_wp2
                  go_roundw
                  case rel => exact ⟨t + 1, by omega, by go_num, by simp; omega, HN2⟩
                  case measure => simp [intOf]; omega
                · obtain ⟨v0, hv0⟩ : ∃ v0, wr.cell? ⟨wo.heap.size, ol.length, none⟩ = some v0 := ⟨_, HIn.out.row.cell (by omega)⟩
                  have hf0 := HIn.out.row.frozen ol.length
                  have hte : t = ol.length := by omega
                  have HN3 : Hid (Inner ol wo ol.length wr) := by rw [← hte]; exact HIn.out
                  clear hte
                  go_wp2
                  go_meet
                  case rel =>
                    have e : row = ol ++ [arch] := by have := HRW.out; simp [fixL, arW, ba] at this; exact this.symm
                    subst e
                    exact inner_end HN3.out H1.out.rep hz
          case rest =>
            obtain ⟨ai2, ci2, rfl, hsa2, hrep2, hbel2⟩ := hcut
            have hc2 : wc.cell? ⟨b, off + k, none⟩ = some (.string nm) := cell_below hbel2 hc'
            have HO1 := hrep2.own1
            have HO2 := hrep2.own2
            rw [H1.out.len] at HO1 HO2
            have HP1 : Hid (wc.ownsRow wb.heap.size 9 1 (.slice (some ⟨wb.heap.size, 0, none⟩) q ns.length) q ((repair ((lines ns rs).take k) arch).map fun l => .string l.1)) := HO1
            have HP2 : Hid (wc.ownsRow wb.heap.size 22 1 (.slice (some ⟨wb.heap.size + 1, 0, none⟩) q ns.length) q vs) := HO2
            have HC : Hid (StrA wc (OffR wb.heap.size) ai2 row ∧ Rep wc wb.heap.size ns.length (repair ((lines ns rs).take k) arch) vs ∧ Below wo.heap.size wo wc) := ⟨hsa2, hrep2, hbel2⟩
            have hzc : wb.heap.size + 1 < wc.heap.size := rep_lt hrep2
            obtain ⟨⟨hi9, hs9⟩, hi22, hs22⟩ := HI.out
            clear HO1 HO2 hsa2 hrep2 hbel2 hc'
            go_wp2_with (at_builtin; refine wpList_append_fits _ rfl (.tmp 97) (.tmp 102) 22 rfl wb.heap.size 9 i9 1 Try.underlying22 hi9 hs9 wb.heap.size q ns.length _ rfl (HP1.out.alloc _) ⟨wc.heap.size, 0, none⟩ 1 1 [.string nm] rfl rfl ?f1 ?f2 (by omega) ?_)
            case f1 => exact cell_one wc _ _
            case f2 => intro u hu; simp at hu; subst hu; rfl
            · intro w1 ho1 hg1
              have HQ1 : Hid (w1.ownsRow wb.heap.size 9 1 (.slice (some ⟨wb.heap.size, 0, none⟩) (q + 1) ns.length) (q + 1) ((repair ((lines ns rs).take k) arch).map (fun l => Value.string l.1) ++ [.string nm])) := ho1
              have HG1 : Hid ((wc.alloc (.cells #[.string nm] 9)).grownBy w1 (some wb.heap.size)) := hg1
              have HQ2 : Hid (w1.ownsRow wb.heap.size 22 1 (.slice (some ⟨wb.heap.size + 1, 0, none⟩) q ns.length) q vs) := (HP2.out.alloc (.cells #[.string nm] 9)).kept hg1 (.inr (by simp [Value.ownBlock]))
              have hzw : wb.heap.size + 1 < w1.heap.size := by have := hg1.size; simp at this; omega
              clear ho1 hg1 hc2
              go_wp2_with (at_builtin; refine wpList_append_fits _ rfl (.tmp 104) (.tmp 106) 23 rfl wb.heap.size 22 i22 1 Try.underlying23 hi22 hs22 (wb.heap.size + 1) q ns.length _ rfl (HQ2.out.alloc _) ⟨w1.heap.size, 0, none⟩ 1 1 [.slice ai2 row.length ci2] rfl rfl ?g1 ?g2 (by omega) ?_)
              case g1 => exact cell_one w1 _ _
              case g2 => intro u hu; simp at hu; subst hu; rfl
              · intro w2 ho2 hg2
                have R := loop1_step H1.out hlt HNM.out HAV.out.2 bn HRW.out HC.out.1 HC.out.2.1 HC.out.2.2 (by omega) HQ1.out HG1.out ho2 hg2
                have HR2 : Hid (Loop1 ns rs arch wb (k + 1) (q + 1) (vs ++ [.slice ai2 row.length ci2]) w2) := R
                have hz2 : wb.heap.size + 1 < w2.heap.size := by have := hg2.size; simp at this; omega
                clear R ho2 hg2 hi9 hs9 hi22 hs22
                go_wp2
                go_roundw
                case rel => exact ⟨k + 1, q + 1, _, by omega, by omega, by go_num, rfl, rfl, hz2, HR2⟩
                case measure => simp [intOf]; omega
        · have R := loop1_skip H1.out hlt HNM.out bn
          have HR2 : Hid (Loop1 ns rs arch wb (k + 1) q vs wr) := R
          clear R
          go_wp2
          go_roundw
          case rel => exact ⟨k + 1, q, _, by omega, by omega, by go_num, rfl, rfl, hz, HR2⟩
          case measure => simp [intOf]; omega
      · have hke : k = ns.length := by omega
        have h1 := H1.out
        rw [hke] at h1
        have hlen := h1.len
        have hrep := h1.rep
        have hbw := h1.bel
        rw [List.take_of_length_le (by rw [lines_length]; exact Nat.le_refl _)] at hlen hrep
        obtain ⟨hr1, hr2⟩ := rep_rows hrep
        have HA : Hid (StrRow wr (some ⟨wb.heap.size, 0, none⟩) ((repair (lines ns rs) arch).map (·.1)) ∧ RowRow wr (some ⟨wb.heap.size + 1, 0, none⟩) ((repair (lines ns rs) arch).map (·.2)) ∧ (repair (lines ns rs) arch).length = q) := ⟨hr1, hr2, hlen⟩
        have HB1 : Hid (Below wb.heap.size wb wr) := hbw
        clear h1 hlen hrep hbw hr1 hr2 hke H1
        obtain ⟨w1, rfl⟩ : ∃ w1 : World, w1 = wr := ⟨_, rfl⟩
        go_wp2_with fail
        refine (zz_is _ _ _ _ _ _ arch q q true _ HA.out.1 HA.out.2.1 (by rw [List.length_map]; exact HA.out.2.2) (by rw [List.length_map]; exact HA.out.2.2) (by omega) (by omega) (by rw [lines_cols]; exact ext_repair _ _)).mono ?_
        rintro e wd ⟨rfl, hbd⟩
        have HBd : Hid (Below wb.heap.size wb wd) := HB1.out.trans (hbd.mono HB1.out.size)
        have HS2 : Hid (StrRow wd a ns) := HS1.out.below HBd.out
        have HV2 : Hid (ArgsV wd ar rs AV) := HV1.out.below HBd.out
        have hm9 := mk_9 ns.length (by omega)
        have hm22 := mk_22 ns.length (by omega)
        clear hbd HA HB1
        go_wp2
        clear hm9 hm22
        go_loopw [19] (fun i wr => ∃ (k : Nat), k ≤ ns.length ∧ i = .int .i64 k ∧ wd.heap.size + 1 < wr.heap.size ∧ Two wd ns.length k (revF ns) (revG ns.length rs AV) wr) (fun i _ => ns.length - (intOf i).toNat)
        case atStart => exact ⟨0, Nat.zero_le _, rfl, by simp, two_start _ _ _ _⟩
        case round =>
          obtain ⟨k, hk, rfl, hz3, ht⟩ := hrel
          have HT : Hid (Two wd ns.length k (revF ns) (revG ns.length rs AV) wr) := ht
          clear ht
          by_cases hlt3 : k < ns.length
          · obtain ⟨b, off, rfl, hc⟩ := HS2.out (ns.length - 1 - k) (by omega)
            have hc' : wr.cell? ⟨b, off + (ns.length - 1 - k), none⟩ = some (.string (ns[ns.length - 1 - k]'(by omega))) := cell_below HT.out.bel hc
            obtain ⟨nm, hnm⟩ : ∃ nm, nm = ns[ns.length - 1 - k]'(by omega) := ⟨_, rfl⟩
            rw [← hnm] at hc'
            obtain ⟨ai, ci, hAV⟩ : ∃ ai ci, AV (ns.length - 1 - k) = (ai, ci) := ⟨_, _, rfl⟩
            obtain ⟨ol, hol⟩ : ∃ ol, rs.getD (ns.length - 1 - k) [] = ol := ⟨_, rfl⟩
            have HAV : Hid (AV (ns.length - 1 - k) = (ai, ci) ∧ rs.getD (ns.length - 1 - k) [] = ol) := ⟨hAV, hol⟩
            have HF : Hid (revF ns k = .string nm ∧ revG ns.length rs AV k = .slice ai ol.length ci) := ⟨by rw [hnm]; exact revF_at ns k hlt3, by unfold revG; rw [hAV, hol]⟩
            obtain ⟨v0, hv0⟩ : ∃ v0, wr.cell? ⟨wd.heap.size, k, none⟩ = some v0 := ⟨_, HT.out.row1.cell hlt3⟩
            obtain ⟨v1, hv1⟩ : ∃ v1, wr.cell? ⟨wd.heap.size + 1, k, none⟩ = some v1 := ⟨_, HT.out.row2.cell hlt3⟩
            have hf0 := HT.out.row1.frozen k
            have hf1 := HT.out.row2.frozen k
            have hidx : ((ns.length : Int) - 1 - (k : Int)).toNat = ns.length - 1 - k := by omega
            have HV3 : Hid (∀ v, ArgsV (wr.setCell ⟨wd.heap.size, k, none⟩ v) ar rs AV) := fun v => HV2.out.below (HT.out.bel.setCell (Nat.le_refl _) v)
            clear hc hnm hAV hol
            go_wp2_with (go_at_call 7; refine (argsAt_is ar cr rs AV (ns.length - 1 - k) _ (by omega) _ (HV3.out _) HAV.out.1 HAV.out.2).mono ?_; rintro e w2 ⟨rfl, rfl⟩)
            go_roundw
            case rel => exact ⟨k + 1, by omega, by go_num, by simp; omega, two_step HT.out HF.out.1 HF.out.2⟩
            case measure => simp [intOf]; omega
          · have hke : k = ns.length := by omega
            have h3 := HT.out
            rw [hke] at h3
            have hr1 : StrRow wr (some ⟨wd.heap.size, 0, none⟩) (revN ns) := strRow_of_rowIs h3.row1 (by simp [revN]) (fun i hi => by simp [revN] at hi; simp [upTo, hi, revF, revN])
            have hr2 : RowRow wr (some ⟨wd.heap.size + 1, 0, none⟩) (revR ns.length rs) := rowRow_of_rowIs h3.row2 (by simp [revR]) (fun i hi => by
              simp [revR] at hi
              have hv := HV2.out (ns.length - 1 - i)
              refine ⟨(AV (ns.length - 1 - i)).1, (AV (ns.length - 1 - i)).2, by simp [upTo, hi, revG, revR], ?_, ?_⟩
              · have e : (revR ns.length rs)[i]'(by simp [revR]; omega) = rs.getD (ns.length - 1 - i) [] := by simp [revR]
                rw [e]; exact hv.2.2.1.below h3.bel
              · have e : (revR ns.length rs)[i]'(by simp [revR]; omega) = rs.getD (ns.length - 1 - i) [] := by simp [revR]
                rw [e]; have := hv.2.2.2; omega)
            have HA : Hid (StrRow wr (some ⟨wd.heap.size, 0, none⟩) (revN ns) ∧ RowRow wr (some ⟨wd.heap.size + 1, 0, none⟩) (revR ns.length rs)) := ⟨hr1, hr2⟩
            have HB3 : Hid (Below wd.heap.size wd wr) := h3.bel
            clear h3 hr1 hr2 hke HT
            obtain ⟨w3, rfl⟩ : ∃ w3 : World, w3 = wr := ⟨_, rfl⟩
            go_wp2_with fail
            refine (zz_is _ _ _ _ _ _ arch ns.length ns.length (ext (lines ns rs) arch) _ HA.out.1 HA.out.2 (by simp [revN]) (by simp [revR]) (by omega) (by omega) (ext_rev ns rs arch)).mono ?_
            rintro e we ⟨rfl, hbe⟩
            have HBe : Hid (Below wd.heap.size wd we) := HB3.out.trans (hbe.mono HB3.out.size)
            have HS4 : Hid (StrRow we a ns) := HS2.out.below HBe.out
            have HV4 : Hid (ArgsV we ar rs AV) := HV2.out.below HBe.out
            have hm9 := mk_9 (ns.length + 1) (by omega)
            have hm22 := mk_22 (ns.length + 1) (by omega)
            have ec : ((ns.length + 1 : Nat) : Int) = (ns.length : Int) + 1 := by omega
            rw [ec] at hm9 hm22
            clear hbe HA HB3 ec
            go_wp2
            clear hm9 hm22
            go_loopw [25] (fun i wr => ∃ (k : Nat), k ≤ ns.length ∧ i = .int .i64 k ∧ we.heap.size + 3 < wr.heap.size ∧ Four we (ns.length + 1) k (fwdF ns) (fwdG rs AV) wr) (fun i _ => ns.length - (intOf i).toNat)
            case atStart => exact ⟨0, Nat.zero_le _, rfl, by simp, four_start _ _ _ _⟩
            case round =>
              obtain ⟨k, hk, rfl, hz4, ht⟩ := hrel
              have HT : Hid (Four we (ns.length + 1) k (fwdF ns) (fwdG rs AV) wr) := ht
              clear ht
              by_cases hlt4 : k < ns.length
              · obtain ⟨b, off, rfl, hc⟩ := HS4.out k hlt4
                have hbb : b < we.heap.size := World.block_lt_of_cell? _ _ hc
                have hc' : wr.cell? ⟨b, off + k, none⟩ = some (.string ns[k]) := cell_below HT.out.bel hc
                obtain ⟨nm, hnm⟩ : ∃ nm, nm = ns[k] := ⟨_, rfl⟩
                rw [← hnm] at hc'
                obtain ⟨ai, ci, hAV⟩ : ∃ ai ci, AV k = (ai, ci) := ⟨_, _, rfl⟩
                obtain ⟨ol, hol⟩ : ∃ ol, rs.getD k [] = ol := ⟨_, rfl⟩
                have HAV : Hid (AV k = (ai, ci) ∧ rs.getD k [] = ol) := ⟨hAV, hol⟩
                have HF : Hid (fwdF ns k = .string nm ∧ fwdG rs AV k = .slice ai ol.length ci) := ⟨by rw [hnm]; exact fwdF_at ns k hlt4, by unfold fwdG; rw [hAV, hol]⟩
                obtain ⟨v0, hv0⟩ : ∃ v0, wr.cell? ⟨we.heap.size, k, none⟩ = some v0 := ⟨_, HT.out.row1.cell (by omega)⟩
                obtain ⟨v1, hv1⟩ : ∃ v1, wr.cell? ⟨we.heap.size + 1, k, none⟩ = some v1 := ⟨_, HT.out.row2.cell (by omega)⟩
                obtain ⟨v2, hv2⟩ : ∃ v1, wr.cell? ⟨we.heap.size + 2, k, none⟩ = some v1 := ⟨_, HT.out.row3.cell (by omega)⟩
                obtain ⟨v3, hv3⟩ : ∃ v1, wr.cell? ⟨we.heap.size + 3, k, none⟩ = some v1 := ⟨_, HT.out.row4.cell (by omega)⟩
                have hf0 := HT.out.row1.frozen k
                have hf1 := HT.out.row2.frozen k
                have hf2 := HT.out.row3.frozen k
                have hf3 := HT.out.row4.frozen k
                have HV5 : Hid (∀ x, ArgsV (wr.setCell ⟨we.heap.size, k, none⟩ x) ar rs AV) := fun x => HV4.out.below (HT.out.bel.setCell (Nat.le_refl _) x)
                have HV6 : Hid (∀ x y z, ArgsV (((wr.setCell ⟨we.heap.size, k, none⟩ x).setCell ⟨we.heap.size + 1, k, none⟩ y).setCell ⟨we.heap.size + 1 + 1, k, none⟩ z) ar rs AV) := fun x y z => HV4.out.below (((HT.out.bel.setCell (Nat.le_refl _) x).setCell (by simp) y).setCell (by simp; omega) z)
                clear hc hnm hAV hol
                go_wp2_with (go_at_call 7; refine (argsAt_is ar cr rs AV k _ rfl _ (by first | exact HV5.out _ | exact HV6.out _ _ _) HAV.out.1 HAV.out.2).mono ?_; rintro e w2 ⟨rfl, rfl⟩)
                go_roundw
                case rel => exact ⟨k + 1, by omega, by go_num, by simp; omega, four_step HT.out HF.out.1 HF.out.2⟩
                case measure => simp [intOf]; omega
              · have hke : k = ns.length := by omega
                have HT2 : Hid (Four we (ns.length + 1) ns.length (fwdF ns) (fwdG rs AV) wr) := by have h := HT.out; rw [hke] at h; exact h
                obtain ⟨v0, hv0⟩ : ∃ v0, wr.cell? ⟨we.heap.size, ns.length, none⟩ = some v0 := ⟨_, HT2.out.row1.cell (by omega)⟩
                have hf0 := HT2.out.row1.frozen ns.length
                clear hke HT
                obtain ⟨w4, rfl⟩ : ∃ w4 : World, w4 = wr := ⟨_, rfl⟩
                go_upto_region 49 with fail
                have H5 : Hid (Fin0 we ns rs AV (w4.setCell ⟨we.heap.size, ns.length, none⟩ (.string ⟨#[97, 114, 99, 104, 101, 115]⟩))) := fin0_of HT2.out
                have hz5 : we.heap.size + 3 < (w4.setCell ⟨we.heap.size, ns.length, none⟩ (.string ⟨#[97, 114, 99, 104, 101, 115]⟩)).heap.size := by simp; omega
                clear hv0 hf0 HT2 hz4
                generalize w4.setCell ⟨we.heap.size, ns.length, none⟩ (.string ⟨#[97, 114, 99, 104, 101, 115]⟩) = w5 at *
                go_cut [] (fun wx => Fin1 we ns rs AV arch wx)
                case first =>
                  obtain ⟨v1, hv1⟩ : ∃ v1, ∀ o, (w5.alloc o).cell? ⟨we.heap.size + 1, ns.length, none⟩ = some v1 := ⟨_, fun o => (H5.out.row2.alloc o).cell (by omega)⟩
                  have hf1 := fun o => (H5.out.row2.alloc o).frozen ns.length
                  go_wp2
                  go_meet
                  case rel => exact fin1_of H5.out hz5
                case rest =>
                  have H6 : Hid (Fin1 we ns rs AV arch wc) := hcut
                  clear hcut
                  obtain ⟨v2, hv2⟩ : ∃ v1, wc.cell? ⟨we.heap.size + 2, ns.length, none⟩ = some v1 := ⟨_, H6.out.row3.cell (by omega)⟩
                  obtain ⟨v3, hv3⟩ : ∃ v1, wc.cell? ⟨we.heap.size + 3, ns.length, none⟩ = some v1 := ⟨_, H6.out.row4.cell (by omega)⟩
                  have hf2 := H6.out.row3.frozen ns.length
                  have hf3 := H6.out.row4.frozen ns.length
                  go_wp2_with fail
                  have H7 : Hid (Fin2 we ns rs AV arch ((wc.setCell ⟨we.heap.size + 2, ns.length, none⟩ (.string ⟨#[110, 111, 101, 120, 116, 114, 97, 99, 116]⟩)).setCell ⟨we.heap.size + 3, ns.length, none⟩ (.slice none 0 0))) := fin2_of H6.out
                  obtain ⟨k1, k2, k3, k4, kb⟩ := fin_rows HV4.out H7.out
                  refine (zz_is _ _ _ _ _ _ arch (ns.length + 1) (ns.length + 1) (ext (lines ns rs) arch) _ k1 k2 (by simp) (by simp [padR]) (by omega) (by omega) (ext_arch ns rs arch _ ar_list)).mono ?_
                  rintro e wf ⟨rfl, hbf⟩
                  have HK : Hid (StrRow wf (some ⟨we.heap.size + 2, 0, none⟩) (ns ++ [⟨#[110, 111, 101, 120, 116, 114, 97, 99, 116]⟩]) ∧ RowRow wf (some ⟨we.heap.size + 3, 0, none⟩) (padR ns.length rs ++ [[]])) := ⟨k3.below hbf, k4.below hbf⟩
                  have HBf : Hid (Below we.heap.size we wf) := kb.trans (hbf.mono kb.size)
                  clear k1 k2 k3 k4 kb hbf H7 H6 hv2 hv3 hf2 hf3
                  go_wp2_with fail
                  refine (zz_is _ _ _ _ _ _ arch (ns.length + 1) (ns.length + 1) false _ HK.out.1 HK.out.2 (by simp) (by simp [padR]) (by omega) (by omega) (ext_no ns rs arch _ no_list)).mono ?_
                  rintro e wg ⟨rfl, hbg⟩
                  have HBg : Hid (Below wf.heap.size wf wg) := hbg
                  clear hbg
                  have HX : Hid (Below w.heap.size w wg) := by
                    have h1 := HB0.out.trans (HBb.out.mono HB0.out.size)
                    have h2 := h1.trans (HBd.out.mono h1.size)
                    have h3 := h2.trans (HBe.out.mono h2.size)
                    have h4 := h3.trans (HBf.out.mono h3.size)
                    exact h4.trans (HBg.out.mono h4.size)
                  generalize ext (lines ns rs) arch = B at *
                  cases B
                  · go_wp2
                    go_ret
                    exact ⟨rfl, HX.out⟩
                  · go_wp2
                    go_ret
                    exact ⟨rfl, HX.out⟩
end Go.Proofs.Qxb6612196a.Ex
