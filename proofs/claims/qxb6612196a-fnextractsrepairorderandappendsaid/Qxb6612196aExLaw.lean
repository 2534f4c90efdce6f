/- THE PLAIN LAW: repaired, reversed, appended. No Go in sight. -/
import Derived.Test.Qxb6612196aExPlain
namespace Go.Proofs.Qxb6612196a.ExPlain

/-- one line, repaired -/
def fixL (arch : ByteArray) (l : Line) : Line := if (l.1.toList == arW) = true then (l.1, l.2 ++ [arch]) else l
/-- all lines, repaired -/
def repair (ls : List Line) (arch : ByteArray) : List Line := (ls.filter (fun l => !(l.1.toList == noW))).map (fixL arch)
theorem hasS_snoc (ol : List ByteArray) (arch : ByteArray) : hasS (ol ++ [arch]) arch = true := by simp [hasS]
theorem fixL_name (arch : ByteArray) (l : Line) : (fixL arch l).1 = l.1 := by unfold fixL; split <;> rfl
theorem ext_repair (ls : List Line) (arch : ByteArray) : ext (repair ls arch) arch = true := by
  unfold ext repair
  rw [List.all_map, List.all_filter]
  rw [List.all_eq_true]
  intro l _
  simp only [Function.comp, okL, fixL_name]
  by_cases h : (l.1.toList == noW) = true
  · simp [h]
  · have h' : (l.1.toList == noW) = false := by simpa using h
    by_cases h2 : (l.1.toList == arW) = true
    · have e : (fixL arch l).2 = l.2 ++ [arch] := by unfold fixL; rw [if_pos h2]
      rw [e, hasS_snoc]; simp [h']
    · have h2' : (l.1.toList == arW) = false := by simpa using h2
      simp [h', h2']
theorem repair_drop (ls : List Line) (arch : ByteArray) (l : Line) (h : (l.1.toList == noW) = true) : repair (ls ++ [l]) arch = repair ls arch := by
  simp [repair, List.filter_append, h]
theorem repair_keep (ls : List Line) (arch : ByteArray) (l : Line) (h : (l.1.toList == noW) = false) : repair (ls ++ [l]) arch = repair ls arch ++ [fixL arch l] := by
  simp [repair, List.filter_append, h]
theorem repair_len (ls : List Line) (arch : ByteArray) : (repair ls arch).length ≤ ls.length := by
  unfold repair; rw [List.length_map]; exact List.length_filter_le _ _

/-- lines out of their two columns -/
theorem lines_cols (ls : List Line) : lines (ls.map (·.1)) (ls.map (·.2)) = ls := by
  refine List.ext_getElem (by rw [lines_length, List.length_map]) (fun i h1 h2 => ?_)
  rw [lines_get _ _ i (by rw [lines_length] at h1; exact h1)]
  simp [List.getD_eq_getElem?_getD, List.getElem?_eq_getElem h2]

/-- the columns as the law lays them -/
def revN (ns : List ByteArray) : List ByteArray := (List.range ns.length).map fun i => ns.getD (ns.length - 1 - i) ByteArray.empty
def revR (n : Nat) (rs : List (List ByteArray)) : List (List ByteArray) := (List.range n).map fun i => rs.getD (n - 1 - i) []
def padR (n : Nat) (rs : List (List ByteArray)) : List (List ByteArray) := (List.range n).map fun i => rs.getD i []

theorem getD_range_map {α : Type} (n i : Nat) (f : Nat → α) (d : α) (h : i < n) : ((List.range n).map f).getD i d = f i := by
  simp [List.getD_eq_getElem?_getD, h]

theorem lines_rev (ns : List ByteArray) (rs : List (List ByteArray)) : lines (revN ns) (revR ns.length rs) = (lines ns rs).reverse := by
  have hl : (revN ns).length = ns.length := by simp [revN]
  refine List.ext_getElem (by rw [lines_length, hl, List.length_reverse, lines_length]) (fun i h1 h2 => ?_)
  have hi : i < ns.length := by rw [lines_length, hl] at h1; exact h1
  rw [List.getElem_reverse]
  rw [lines_get _ _ i (by rw [hl]; exact hi)]
  have e2 := lines_get ns rs (ns.length - 1 - i) (by omega)
  have e3 : (lines ns rs)[(lines ns rs).length - 1 - i]'(by rw [lines_length]; omega) = (ns[ns.length - 1 - i]'(by omega), rs.getD (ns.length - 1 - i) []) := by
    rw [← e2]; congr 1; rw [lines_length]
  rw [e3]
  refine Prod.ext ?_ ?_
  · show (revN ns)[i]'(by rw [hl]; exact hi) = _
    simp only [revN, List.getElem_map, List.getElem_range]
    rw [List.getD_eq_getElem?_getD, List.getElem?_eq_getElem (by omega)]; rfl
  · show (revR ns.length rs).getD i [] = _
    unfold revR; rw [getD_range_map _ _ _ _ hi]
theorem ext_rev (ns : List ByteArray) (rs : List (List ByteArray)) (arch : ByteArray) : ext (lines (revN ns) (revR ns.length rs)) arch = ext (lines ns rs) arch := by
  rw [lines_rev]; unfold ext; rw [List.all_reverse]

theorem lines_app (ns : List ByteArray) (rs : List (List ByteArray)) (x : ByteArray) (y : List ByteArray) : lines (ns ++ [x]) (padR ns.length rs ++ [y]) = lines ns rs ++ [(x, y)] := by
  have hp : (padR ns.length rs).length = ns.length := by simp [padR]
  refine List.ext_getElem (by simp [lines_length]) (fun i h1 h2 => ?_)
  have hi : i < ns.length + 1 := by simpa [lines_length] using h1
  rw [lines_get _ _ i (by simpa using hi)]
  by_cases hlt : i < ns.length
  · have eR : (lines ns rs ++ [(x, y)])[i] = (ns[i], rs.getD i []) := by
      rw [List.getElem_append_left (by rw [lines_length]; exact hlt)]; exact lines_get ns rs i hlt
    rw [eR, List.getElem_append_left hlt]
    refine Prod.ext rfl ?_
    show (padR ns.length rs ++ [y]).getD i [] = rs.getD i []
    rw [List.getD_eq_getElem?_getD, List.getElem?_append_left (by rw [hp]; exact hlt), ← List.getD_eq_getElem?_getD]
    unfold padR
    rw [getD_range_map _ _ _ _ hlt]
  · have e : i = ns.length := by omega
    subst e
    have eR : (lines ns rs ++ [(x, y)])[ns.length] = (x, y) := by
      rw [List.getElem_append_right (by rw [lines_length]; exact Nat.le_refl _)]
      simp [lines_length]
    rw [eR]
    refine Prod.ext (by simp) ?_
    show (padR ns.length rs ++ [y]).getD ns.length [] = y
    rw [List.getD_eq_getElem?_getD, List.getElem?_append_right (by rw [hp]; exact Nat.le_refl _), hp]
    simp
theorem ext_arch (ns : List ByteArray) (rs : List (List ByteArray)) (arch x : ByteArray) (hx : x.toList = arW) : ext (lines (ns ++ [x]) (padR ns.length rs ++ [[arch]])) arch = ext (lines ns rs) arch := by
  rw [lines_app]
  unfold ext
  rw [List.all_append]
  simp [okL, hx, noW, arW, hasS]
theorem ext_no (ns : List ByteArray) (rs : List (List ByteArray)) (arch x : ByteArray) (hx : x.toList = noW) : ext (lines (ns ++ [x]) (padR ns.length rs ++ [[]])) arch = false := by
  rw [lines_app]
  unfold ext
  rw [List.all_append]
  simp [okL, hx]
end Go.Proofs.Qxb6612196a.ExPlain
