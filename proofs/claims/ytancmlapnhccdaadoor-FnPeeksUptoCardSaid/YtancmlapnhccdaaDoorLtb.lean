/- The tables of unicode/utf8, from a row's laid list. -/
import Derived.Test.YtancmlapnhccdaaDoorLift
import Derived.Lib.LaidU8
import Derived.PinnedBridge
namespace Go.Proofs.YtancmlapnhccdaaDoor
open Go.ChangeShapes Go.WideShapes Go.ChangeAt Go.RowKit Go.Lib

def two : List (String × DataW Unit) := [("unicode/utf8.acceptRanges", Rows.laid_unicode_utf8_acceptRanges), ("unicode/utf8.first", Rows.laid_unicode_utf8_first)]
def isTwo (x : String × DataW Unit) : Bool := x.1 == "unicode/utf8.acceptRanges" || x.1 == "unicode/utf8.first"

theorem g9 : Tryd.prog.globalNamed "unicode/utf8.first" = some 9 := by kernel_rfl
theorem g10 : Tryd.prog.globalNamed "unicode/utf8.acceptRanges" = some 10 := by kernel_rfl
theorem gt9 : (Tryd.prog.globals[9]?).map (·.type) = some 139 := by kernel_rfl
theorem gt10 : (Tryd.prog.globals[10]?).map (·.type) = some 142 := by kernel_rfl
theorem u139 : Tryd.prog.underlying 139 = some (.array 256 5) := by kernel_rfl
theorem u142 : Tryd.prog.underlying 142 = some (.array 16 141) := by kernel_rfl
theorem c5 : Tryd.prog.cellsOf 5 = 1 := by kernel_rfl
theorem c139 : Tryd.prog.cellsOf 139 = 256 := by kernel_rfl
theorem c141 : Tryd.prog.cellsOf 141 = 2 := by kernel_rfl
theorem s141 : ∃ f0 f1 : Field, Tryd.prog.underlying 141 = some (.struct #[f0, f1]) ∧ f0.type = 5 ∧ f1.type = 5 ∧ f0.offset = 0 ∧ f1.offset = 1 := ⟨_, _, Tryd.underlying141, rfl, rfl, rfl, rfl⟩
theorem acc_eq : (Rows.laid_unicode_utf8_acceptRanges : DataW Unit) = acceptData := by kernel_rfl

theorem tabs_two {W : World} (h : laidMet Tryd.prog two W) : Utf8Tabs 9 10 W := by
  have h4 : VarReads Tryd.prog W "unicode/utf8.acceptRanges" acceptData := by rw [← acc_eq]; exact laidMet.reads h (List.mem_cons_self ..)
  have h3 : VarReads Tryd.prog W "unicode/utf8.first" firstData := by rw [← Go.Pinned.utf8First_eq]; exact laidMet.reads h (List.mem_cons_of_mem _ (List.mem_cons_self ..))
  constructor
  · intro c hc
    obtain ⟨g, t, cs, fuel, p, hg, hty, hvar, hd⟩ := h3
    obtain rfl := Option.some.inj (g9.symm.trans hg)
    obtain rfl := Option.some.inj (gt9.symm.trans hty)
    have hcs := cells_of_tab u139 Tryd.underlying5 c5 c139 hd
    rw [World.var?_cell hg hvar c, ← Array.getElem?_toList, hcs]
    simp [firstTab, hc]
  · intro i hi
    obtain ⟨g, t, cs, fuel, p, hg, hty, hvar, hd⟩ := h4
    obtain rfl := Option.some.inj (g10.symm.trans hg)
    obtain rfl := Option.some.inj (gt10.symm.trans hty)
    obtain ⟨fuel', d, q, hdi, he⟩ := array_elem u142 hd i hi
    obtain ⟨f0, f1, hs, t0, t1, o0, o1⟩ := s141
    simp only [List.getElem?_map, List.getElem?_range hi, Option.map_some, Option.some.injEq] at hdi
    subst hdi
    rw [c141] at he
    have hcs := ints_of_struct hs (fun j f hj => by
      match j, hj with
      | 0, hj => simp at hj; subst hj; rw [t0]; exact ⟨Tryd.underlying5, o0, c5⟩
      | 1, hj => simp at hj; subst hj; rw [t1]; exact ⟨Tryd.underlying5, o1, c5⟩
      | j + 2, hj => simp at hj) c141 he
    have e0 := congrArg (·[0]?) hcs
    have e1 := congrArg (·[1]?) hcs
    simp only [List.getElem?_take, List.getElem?_drop] at e0 e1
    constructor
    · rw [World.var?_cell hg hvar (2 * i), ← Array.getElem?_toList]
      simpa [Nat.mul_comm] using e0
    · rw [World.var?_cell hg hvar (2 * i + 1), ← Array.getElem?_toList]
      simpa [Nat.mul_comm] using e1
theorem tabs_laid {W : World} {laid : List (String × DataW Unit)} (hf : laid.filter isTwo = two) (h : laidMetH Tryd.prog laid W) : Utf8Tabs 9 10 W := by
  have h5 := h.filter isTwo
  rw [hf] at h5
  exact tabs_two h5
end Go.Proofs.YtancmlapnhccdaaDoor
