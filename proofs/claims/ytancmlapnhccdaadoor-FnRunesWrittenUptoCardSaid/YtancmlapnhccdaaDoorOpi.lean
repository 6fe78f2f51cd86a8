/- A slice of numbers of 32 bits among the arguments. -/
import Derived.Test.YtancmlapnhccdaaDoorOpo
import Derived.Test.YtancmlapnhccdaaDoorLrw
namespace Go.Proofs.YtancmlapnhccdaaDoor
open Go.ChangeShapes Go.WideShapes Go.ChangeAt Go.RowKit Go.Deep
section
variable {H : Type} {enc : TypeId × Value → H} {W : World} {P : Program}
theorem open_i32s' {r : Reach} {b0 : Nat} {t q : TypeId} {v : Value} {d : DataW H} {p : List MemPlace} (ht : P.underlying t = some (.slice q)) (hq : P.underlying q = some (.int .i32)) (cq : P.cellsOf q = 1) (hval : Value.okWide P W r b0 t v) (h : DataW.Trod enc P W 0 (fun _ => true) true t v d p) :
    ∃ (A : Option Addr) (xs : List Int) (c : Nat), v = .slice A xs.length c ∧ Reads W W.heap.size 1 A xs.length (ivs xs) ∧ (∀ x ∈ xs, -2147483648 ≤ x ∧ x ≤ 2147483647) ∧ 1 + xs.length ≤ Rows.uptoBulk d := by
  obtain ⟨A0, len0, cap0, rfl⟩ := okWide_slice ht hval
  obtain ⟨fuel, hf⟩ := h
  rcases open_ints ht hq cq hf with ⟨hcs, hx⟩ | ⟨a, len, cap, zs, hcs, _, hl, hm, hz, hx, hcell, hwz⟩
  · simp [Value.cells] at hcs
    obtain ⟨rfl, rfl, rfl⟩ := hcs
    exact ⟨none, [], 0, rfl, Reads.none_, by simp, by simpa using bulk_one d⟩
  · simp [Value.cells] at hcs
    obtain ⟨rfl, rfl, rfl⟩ := hcs
    simp only [Prod.mk.injEq] at hx
    obtain ⟨rfl, -⟩ := hx
    simp only [if_true] at hz
    have hlen : (zs.take len0).length = len0 := by simp; omega
    refine ⟨some a, zs.take len0, cap0, by rw [hlen], ⟨by simp [ivs], fun hn => ⟨a, rfl, ?_, fun j u hj => ?_⟩⟩, fun x hx => ?_, ?_⟩
    · have := cell_lt (hcell 0 (by rw [hlen] at hn; omega))
      rwa [block_of_add] at this
    · have hj' : j < len0 := by
        have := (List.getElem?_eq_some_iff.1 hj).1
        simp only [ivs, List.length_map] at this
        rw [hlen] at this; exact this
      have hzj : zs[j]? = some (zs[j]'(by omega)) := List.getElem?_eq_getElem _
      unfold ivs at hj
      rw [List.getElem?_map, List.getElem?_take, if_pos hj', hzj] at hj
      simp only [Option.map_some, Option.some.injEq] at hj
      rw [hcell j (by omega), ← hj]
      simp [List.getD, hzj]
    · exact bounds_i32 (hwz x (List.mem_of_mem_take hx))
    · have := bulk_len (lits (H := H) .i32 (zs.take len0))
      simp only [lits, List.length_map] at this
      simp only [Rows.uptoBulk, lits]
      omega
end
theorem cells21 : Tryd.prog.cellsOf 21 = 1 := by kernel_rfl
end Go.Proofs.YtancmlapnhccdaaDoor
