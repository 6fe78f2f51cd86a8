/- Joined by merge.py out of: Open, Opn. -/
import Derived.Test.YtancmlapnhccdaaDoorLift

/- From arguments read as data to lists: a byte, bytes, pieces; and the bound. -/
namespace Go.Proofs.YtancmlapnhccdaaDoor
open Go.ChangeShapes Go.WideShapes Go.ChangeAt Go.RowKit Go.Deep

theorem bulk_one {H : Type} (d : DataW H) : 1 ≤ Rows.uptoBulk d := by
  cases d with
  | lit l => cases l <;> simp [Rows.uptoBulk]
  | nil => simp [Rows.uptoBulk]
  | ptr d => simp [Rows.uptoBulk]
  | slice elems spare => simp [Rows.uptoBulk]
  | agg parts => simp [Rows.uptoBulk]
  | iface t d => simp [Rows.uptoBulk]
  | map entries => simp [Rows.uptoBulk]
  | held h => simp [Rows.uptoBulk]
theorem bulk_len {H : Type} (l : List (DataW H)) : l.length ≤ Rows.uptoBulkAll l := by
  induction l with
  | nil => simp [Rows.uptoBulkAll]
  | cons x r ih => have := bulk_one x; simp only [Rows.uptoBulkAll, List.length_cons]; omega
theorem bulk_flat {H : Type} {ι : Type} (f : ι → DataW H) (g : ι → List UInt8) (l : List ι) (h : ∀ r ∈ l, 1 + (g r).length ≤ Rows.uptoBulk (f r)) : l.length + (l.map g).flatten.length ≤ Rows.uptoBulkAll (l.map f) := by
  induction l with
  | nil => simp [Rows.uptoBulkAll]
  | cons x r ih =>
    have h1 := ih fun r hr => h r (List.mem_cons_of_mem _ hr)
    have h2 := h x (List.mem_cons_self ..)
    simp only [List.map_cons, List.flatten_cons, List.length_append, Rows.uptoBulkAll, List.length_cons]
    omega

/-- a number of a byte's range as a byte -/
def toB (n : Int) : UInt8 := UInt8.ofNat n.toNat
theorem bv_toB {n : Int} (h : (Lit.int .u8 n).wf = true) : bv (toB n) = .int .u8 n := by
  have hb := bounds_u8 h
  unfold bv toB
  have : (UInt8.ofNat n.toNat).toNat = n.toNat := by
    rw [UInt8.toNat_ofNat']
    omega
  rw [this]
  congr 1
  omega
theorem cell_lt {w : World} {a : Addr} {v : Value} (h : w.cell? a = some v) : a.block < w.heap.size := by
  rcases Nat.lt_or_ge a.block w.heap.size with h' | h'
  · exact h'
  · simp [World.cell?, Array.getElem?_eq_none h'] at h

section
variable {H : Type} {enc : TypeId × Value → H} {W : World} {P : Program}

theorem open_byte' {r : Reach} {b0 : Nat} {t : TypeId} {v : Value} {d : DataW H} {p : List MemPlace} (ht : P.underlying t = some (.int .u8)) (hval : Value.okWide P W r b0 t v) (h : DataW.Trod enc P W 0 (fun _ => true) true t v d p) : ∃ n : Nat, n ≤ 255 ∧ v = .int .u8 (n : Nat) := by
  obtain ⟨n, rfl, rfl, rfl, hw⟩ := open_int ht hval h
  have hb := bounds_u8 hw
  refine ⟨n.toNat, by omega, ?_⟩
  congr 1
  omega

theorem open_bytes' {r : Reach} {b0 : Nat} {t q : TypeId} {v : Value} {d : DataW H} {p : List MemPlace} (ht : P.underlying t = some (.slice q)) (hq : P.underlying q = some (.int .u8)) (cq : P.cellsOf q = 1) (hval : Value.okWide P W r b0 t v) (h : DataW.Trod enc P W 0 (fun _ => true) true t v d p) :
    ∃ (A : Option Addr) (xs : List UInt8) (c : Nat), v = .slice A xs.length c ∧ Reads W W.heap.size 1 A xs.length (bvs xs) ∧ xs.length ≤ c ∧ c ≤ maxLen ∧ 1 + xs.length ≤ Rows.uptoBulk d := by
  obtain ⟨A0, len0, cap0, rfl⟩ := okWide_slice ht hval
  obtain ⟨fuel, hf⟩ := h
  rcases open_ints ht hq cq hf with ⟨hcs, hx⟩ | ⟨a, len, cap, zs, hcs, _, hl, hm, hz, hx, hcell, hwz⟩
  · simp [Value.cells] at hcs
    obtain ⟨rfl, rfl, rfl⟩ := hcs
    exact ⟨none, [], 0, rfl, Reads.none_, Nat.zero_le _, by simp [maxLen], by simpa using bulk_one d⟩
  · simp [Value.cells] at hcs
    obtain ⟨rfl, rfl, rfl⟩ := hcs
    simp only [Prod.mk.injEq] at hx
    obtain ⟨rfl, -⟩ := hx
    simp only [if_true] at hz
    have hlen : ((zs.take len0).map toB).length = len0 := by simp; omega
    refine ⟨some a, (zs.take len0).map toB, cap0, by rw [hlen], ⟨by simp [bvs_length], fun hn => ⟨a, rfl, ?_, fun j u hj => ?_⟩⟩, by omega, hm, ?_⟩
    · have := cell_lt (hcell 0 (by rw [hlen] at hn; omega))
      rwa [block_of_add] at this
    · have hj' : j < len0 := by
        have := (List.getElem?_eq_some_iff.1 hj).1
        rw [bvs_length, hlen] at this; exact this
      have hzj : zs[j]? = some (zs[j]'(by omega)) := List.getElem?_eq_getElem _
      rw [bvs_get, List.getElem?_map, List.getElem?_take, if_pos hj', hzj] at hj
      simp only [Option.map_some, Option.some.injEq] at hj
      rw [bv_toB (hwz _ (List.getElem_mem _))] at hj
      rw [hcell j (by omega), ← hj]
      simp [List.getD, hzj]
    · have := bulk_len (lits (H := H) .u8 (zs.take len0))
      simp only [lits, List.length_map] at this
      simp only [Rows.uptoBulk, lits, List.length_map]
      omega

theorem open_pieces' {r : Reach} {b0 : Nat} {t e q : TypeId} {v : Value} {d : DataW H} {p : List MemPlace} (ht : P.underlying t = some (.slice e)) (he : P.underlying e = some (.slice q)) (hq : P.underlying q = some (.int .u8)) (ce : P.cellsOf e = 1) (cq : P.cellsOf q = 1)
    (hval : Value.okWide P W r b0 t v) (h : DataW.Trod enc P W 0 (fun _ => true) true t v d p) :
    ∃ (A : Option Addr) (ps : List (List UInt8)) (c : Nat), v = .slice A ps.length c ∧ PiecesAt W W.heap.size A ps ∧ ps.length + ps.flatten.length ≤ Rows.uptoBulk d := by
  obtain ⟨A0, len0, cap0, rfl⟩ := okWide_slice ht hval
  obtain ⟨fuel, hf⟩ := h
  rcases open_int_rows ht he hq ce cq hf with ⟨hcs, hx⟩ | ⟨a, len, cap, A, L, C, Z, hcs, _, hl, hm, hx, hrow⟩
  · simp [Value.cells] at hcs
    obtain ⟨rfl, rfl, rfl⟩ := hcs
    exact ⟨none, [], 0, rfl, ⟨[], Reads.none_, fun j p hj => by simp at hj⟩, by simp⟩
  · simp [Value.cells] at hcs
    obtain ⟨rfl, rfl, rfl⟩ := hcs
    simp only [Prod.mk.injEq] at hx
    obtain ⟨rfl, -⟩ := hx
    have hlen : ∀ r, r < cap0 → (((Z r).take (L r)).map toB).length = L r := fun r hr => by
      obtain ⟨_, h1, _, h3, _⟩ := hrow r hr
      simp; omega
    refine ⟨some a, (List.range len0).map fun r => ((Z r).take (L r)).map toB, cap0, by simp, ⟨(List.range len0).map fun r => .slice (A r) (L r) (C r), ⟨by simp, fun hn => ?_⟩, ?_⟩, ?_⟩
    · refine ⟨a, rfl, ?_, fun j u hj => ?_⟩
      · have := cell_lt (hrow 0 (by simp at hn; omega)).1
        rwa [block_of_add] at this
      · have hj' : j < len0 := by simpa using (List.getElem?_eq_some_iff.1 hj).1
        rw [List.getElem?_map, List.getElem?_range hj'] at hj
        simp only [Option.map_some, Option.some.injEq] at hj
        rw [← hj]
        exact (hrow j (by omega)).1
    · intro j x hj
      have hj' : j < len0 := by simpa using (List.getElem?_eq_some_iff.1 hj).1
      rw [List.getElem?_map, List.getElem?_range hj'] at hj
      simp only [Option.map_some, Option.some.injEq] at hj
      subst hj
      obtain ⟨_, h1, h2, h3, h4, h5, h6⟩ := hrow j (by omega)
      refine ⟨.slice (A j) (L j) (C j), by rw [List.getElem?_map, List.getElem?_range hj']; rfl, A j, L j, C j, rfl, h1, h2, (hlen j (by omega)).symm, by rw [bvs_length, hlen j (by omega)]; omega, fun hn => ?_⟩
      rcases hA : A j with _ | ad
      · have := h5 hA; omega
      obtain ⟨-, hcell⟩ := h6 ad hA
      refine ⟨ad, rfl, ?_, fun i u hi => ?_⟩
      · have := cell_lt (hcell 0 (by omega))
        rwa [block_of_add] at this
      · have hi' : i < L j := by
          have := (List.getElem?_eq_some_iff.1 hi).1
          rw [bvs_length, hlen j (by omega)] at this; exact this
        have hzj : (Z j)[i]? = some ((Z j)[i]'(by omega)) := List.getElem?_eq_getElem _
        rw [bvs_get, List.getElem?_map, List.getElem?_take, if_pos hi', hzj] at hi
        simp only [Option.map_some, Option.some.injEq] at hi
        rw [bv_toB (h4 _ (List.getElem_mem _))] at hi
        rw [hcell i (by omega), ← hi]
        simp [List.getD, hzj]
    · have hb := bulk_flat (H := H) (fun r => intRow .u8 (A r) (L r) (Z r)) (fun r => ((Z r).take (L r)).map toB) (List.range len0) (fun r hr => by
        have hr' : r < cap0 := by have := List.mem_range.1 hr; omega
        obtain ⟨_, h1, h2, h3, h4, h5, h6⟩ := hrow r hr'
        rw [hlen r hr']
        rcases hA : A r with _ | ad
        · have := h5 hA
          have := bulk_one (intRow (H := H) .u8 none (L r) (Z r))
          omega
        · have := bulk_len (lits (H := H) .u8 ((Z r).take (L r)))
          simp only [lits, List.length_map, List.length_take] at this
          simp only [intRow, Rows.uptoBulk, lits]
          omega)
      simp only [Rows.uptoBulk]
      simp only [List.length_range] at hb
      simp only [List.length_map, List.length_range]
      omega
end

theorem cells5 : Tryd.prog.cellsOf 5 = 1 := by kernel_rfl
theorem cells25 : Tryd.prog.cellsOf 25 = 1 := by kernel_rfl
end Go.Proofs.YtancmlapnhccdaaDoor

/- More arguments read as data: numbers of 16 and of 64 bits. -/
namespace Go.Proofs.YtancmlapnhccdaaDoor
open Go.ChangeShapes Go.WideShapes Go.ChangeAt Go.RowKit Go.Deep
section
variable {H : Type} {enc : TypeId × Value → H} {W : World} {P : Program}
theorem open_u16' {r : Reach} {b0 : Nat} {t : TypeId} {v : Value} {d : DataW H} {p : List MemPlace} (ht : P.underlying t = some (.int .u16)) (hval : Value.okWide P W r b0 t v) (h : DataW.Trod enc P W 0 (fun _ => true) true t v d p) : ∃ n : Nat, n ≤ 65535 ∧ v = .int .u16 (n : Nat) := by
  obtain ⟨n, rfl, rfl, rfl, hw⟩ := open_int ht hval h
  have hb := bounds_u16 hw
  refine ⟨n.toNat, by omega, ?_⟩
  congr 1
  omega
theorem open_i64' {r : Reach} {b0 : Nat} {t : TypeId} {v : Value} {d : DataW H} {p : List MemPlace} (ht : P.underlying t = some (.int .i64)) (hval : Value.okWide P W r b0 t v) (h : DataW.Trod enc P W 0 (fun _ => true) true t v d p) : ∃ n : Int, (-9223372036854775808 ≤ n ∧ n ≤ 9223372036854775807) ∧ v = .int .i64 n := by
  obtain ⟨n, rfl, rfl, rfl, hw⟩ := open_int ht hval h
  exact ⟨n, bounds_i64 hw, rfl⟩
end
end Go.Proofs.YtancmlapnhccdaaDoor
