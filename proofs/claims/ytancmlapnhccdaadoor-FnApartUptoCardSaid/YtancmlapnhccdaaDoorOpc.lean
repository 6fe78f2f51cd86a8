/- A slice of calls among the arguments, read as data. -/
import Derived.Test.YtancmlapnhccdaaDoorOpo
import Derived.Test.YtancmlapnhccdaaDoorRrn
import Derived.Deep.Slices
import Derived.Deep.Fields
import Derived.ChangeSame
namespace Go.Proofs.YtancmlapnhccdaaDoor
open Go.ChangeShapes Go.WideShapes Go.ChangeAt Go.RowKit Go.Deep

/-! ### rows of so many cells each -/
theorem flatK_len {α : Type} (f : Nat → List α) (k : Nat) (hf : ∀ i, (f i).length = k) : ∀ n, ((List.range n).flatMap f).length = n * k
  | 0 => by simp
  | n + 1 => by rw [List.range_succ, List.flatMap_append, List.length_append, flatK_len f k hf n]; simp [hf, Nat.succ_mul]
theorem flatK_get {α : Type} (f : Nat → List α) (k : Nat) (hf : ∀ i, (f i).length = k) : ∀ (n j i : Nat), j < n → i < k → ((List.range n).flatMap f)[j * k + i]? = (f j)[i]?
  | 0, j, i, h, _ => absurd h (by omega)
  | n + 1, j, i, h, hi => by
    have hl := flatK_len f k hf n
    rw [List.range_succ, List.flatMap_append]
    rcases Nat.lt_or_ge j n with hj | hj
    · have : j * k + i < n * k := by
        have := Nat.mul_le_mul_right k (show j + 1 ≤ n from hj)
        rw [Nat.succ_mul] at this
        omega
      rw [List.getElem?_append_left (by omega)]
      exact flatK_get f k hf n j i hj hi
    · obtain rfl : j = n := by omega
      rw [List.getElem?_append_right (by omega), hl, Nat.add_sub_cancel_left]
      simp

section
variable {H : Type} {enc : TypeId × Value → H} {P : Program} {w : World} {base : Nat} {spare : Nat → Bool} {held : Bool}
/-- howto/extra-structs.md, 1, as that page asks -/
theorem open_slice_fields {t e : TypeId} {fs : Array Field} {fuel : Nat} {cs : List Value} {x : DataW H × List MemPlace} (ht : P.underlying t = some (.slice e)) (he : P.underlying e = some (.struct fs))
    (hone : oneCellFields P fs = true) (hC : P.cellsOf e = fs.size) (h : DataW.trod enc P w base spare held fuel t cs = some x) :
    (cs = [.slice none 0 0] ∧ x = (.nil, [])) ∨
    ∃ (a : Addr) (len cap m : Nat) (D : Nat → DataW H) (Pl : Nat → List MemPlace), cs = [.slice (some a) len cap] ∧ base ≤ a.block ∧ len ≤ cap ∧ cap ≤ maxLen ∧ m = (if spare a.block then cap else len) ∧
      x = (.slice ((List.range len).map D) ((List.range (m - len)).map fun j => D (len + j)), MemPlace.row a (m * fs.size) ++ (List.range m).flatMap Pl) ∧
      ∀ i, i < m → ∃ (ys : List (DataW H × List MemPlace)) (n : Nat), D i = .agg (ys.map (·.1)) ∧ Pl i = ys.flatMap (·.2) ∧ ys.length = fs.size ∧
        ∀ (j : Nat) (f : Field), fs[j]? = some f → ∃ (v : Value) (y : DataW H × List MemPlace), w.cell? (a.add (i * fs.size + j)) = some v ∧ ys[j]? = some y ∧ DataW.trod enc P w base spare held n f.type [v] = some y := by
  rcases open_slice ht h with h0 | ⟨a, len, cap, m, n, D, Pl, hcs, hb, hl, hm, hmm, hx, hi⟩
  · exact .inl h0
  · refine .inr ⟨a, len, cap, m, D, Pl, hcs, hb, hl, hm, hmm, by rw [hC] at hx; exact hx, fun i him => ?_⟩
    obtain ⟨cs', hc, ht'⟩ := hi i him
    rw [hC] at hc
    obtain ⟨ys, n', hn', hy, hlen, hyl, hf⟩ := DataW.trod_struct he ht'
    obtain ⟨_, hcl, hat⟩ := World.cells?_some hc
    simp only [Prod.mk.injEq] at hy
    refine ⟨ys, n', hy.1, hy.2, hyl, fun j f hj => ?_⟩
    obtain ⟨ho, hk⟩ := hone_of hone j f hj
    have hjl : j < fs.size := (Array.getElem?_eq_some_iff.1 hj).1
    have hcell := hat j hjl
    have hv : cs'[j]? = some (cs'[j]'(by omega)) := List.getElem?_eq_getElem (by omega)
    have h1 := hf j f hj
    rw [ho, hk] at h1
    have hone' : (cs'.drop j).take 1 = [cs'[j]'(by omega)] := by
      rw [List.drop_eq_getElem_cons (by omega)]
      rfl
    rw [hone'] at h1
    have hys : ys[j]? = some (ys[j]'(by omega)) := List.getElem?_eq_getElem (by omega)
    refine ⟨_, _, ?_, hys, h1.trans hys⟩
    rw [← Go.Deep.add_add, hcell, hv]
end

section
variable {H : Type} {enc : TypeId × Value → H} {W : World} {P : Program}
/-- bytes among the cells of a struct -/
theorem open_bytes_cell {t q : TypeId} {v : Value} {fuel : Nat} {x : DataW H × List MemPlace} (ht : P.underlying t = some (.slice q)) (hq : P.underlying q = some (.int .u8)) (cq : P.cellsOf q = 1) (hf : DataW.trod enc P W 0 (fun _ => true) true fuel t [v] = some x) :
    ∃ (A : Option Addr) (xs : List UInt8) (c : Nat), v = .slice A xs.length c ∧ Reads W W.heap.size 1 A xs.length (bvs xs) ∧ 1 + xs.length ≤ Rows.uptoBulk x.1 := by
  rcases open_ints ht hq cq hf with ⟨hcs, hx⟩ | ⟨a, len, cap, zs, hcs, _, hl, hm, hz, hx, hcell, hwz⟩
  · simp only [List.cons.injEq, and_true] at hcs
    subst hcs
    exact ⟨none, [], 0, rfl, Reads.none_, by simpa using bulk_one x.1⟩
  · simp only [List.cons.injEq, and_true] at hcs
    subst hcs hx
    simp only [if_true] at hz
    have hlen : ((zs.take len).map toB).length = len := by simp; omega
    refine ⟨some a, (zs.take len).map toB, cap, by rw [hlen], ⟨by simp [bvs_length], fun hn => ⟨a, rfl, ?_, fun j u hj => ?_⟩⟩, ?_⟩
    · have := cell_lt (hcell 0 (by rw [hlen] at hn; omega))
      rwa [block_of_add] at this
    · have hj' : j < len := by
        have := (List.getElem?_eq_some_iff.1 hj).1
        rw [bvs_length, hlen] at this; exact this
      have hzj : zs[j]? = some (zs[j]'(by omega)) := List.getElem?_eq_getElem _
      rw [bvs_get, List.getElem?_map, List.getElem?_take, if_pos hj', hzj] at hj
      simp only [Option.map_some, Option.some.injEq] at hj
      rw [bv_toB (hwz _ (List.getElem_mem _))] at hj
      rw [hcell j (by omega), ← hj]
      simp [List.getD, hzj]
    · have := bulk_len (lits (H := H) .u8 (zs.take len))
      simp only [lits, List.length_map] at this
      simp only [Rows.uptoBulk, lits, List.length_map]
      omega

structure CallCell (W : World) (a : Addr) (i : Nat) (d : DataW H) (x : CallD × Option Addr × Nat) : Prop where
  n : x.1.n ≤ 9223372036854775807
  rd : Reads W W.heap.size 1 x.2.1 x.1.bytes.length (bvs x.1.bytes)
  at_ : ∀ (j : Nat) (u : Value), (callCells x.1 x.2.1 x.2.2)[j]? = some u → W.cell? (a.add (i * 4 + j)) = some u
  bulk : x.1.bytes.length + 4 ≤ Rows.uptoBulk d

theorem open_calls {r : Reach} {b0 : Nat} {t e i k q : TypeId} {f0 f1 f2 f3 : Field} {v : Value} {d : DataW H} {p : List MemPlace} (ht : P.underlying t = some (.slice e)) (he : P.underlying e = some (.struct #[f0, f1, f2, f3])) (hone : oneCellFields P #[f0, f1, f2, f3] = true) (hC : P.cellsOf e = 4)
    (e0 : f0.type = i) (e1 : f1.type = i) (e2 : f2.type = k) (e3 : f3.type = q) (hi : P.underlying i = some (.int .i64)) (hk : P.underlying k = some (.int .u8)) (hq : P.underlying q = some (.slice k)) (ck : P.cellsOf k = 1)
    (hval : Value.okWide P W r b0 t v) (h : DataW.Trod enc P W 0 (fun _ => true) true t v d p) :
    ∃ (A : Option Addr) (cs : List CallD) (c : Nat), v = .slice A cs.length c ∧ CallsAt W W.heap.size A cs ∧ callsLen cs ≤ Rows.uptoBulk d := by
  obtain ⟨A0, len0, cap0, rfl⟩ := okWide_slice ht hval
  obtain ⟨fuel, hf⟩ := h
  rcases open_slice_fields ht he hone hC hf with ⟨hcs, hx⟩ | ⟨a, len, cap, m, D, Pl, hcs, _, hl, hm, hmm, hx, hrow⟩
  · simp [Value.cells] at hcs
    obtain ⟨rfl, rfl, rfl⟩ := hcs
    exact ⟨none, [], 0, rfl, ⟨[], Reads.none_, fun j p hj => by simp at hj⟩, by simp [callsLen]⟩
  · simp [Value.cells] at hcs
    obtain ⟨rfl, rfl, rfl⟩ := hcs
    simp only [Prod.mk.injEq] at hx
    obtain ⟨rfl, -⟩ := hx
    simp only [if_true] at hmm
    subst hmm
    have hcell : ∀ n, ∃ x : CallD × Option Addr × Nat, n < len0 → CallCell W a n (D n) x := by
      intro n
      by_cases hn : n < len0
      · obtain ⟨ys, fu, hD, _, hyl, hfs⟩ := hrow n (by omega)
        obtain ⟨v0, y0, c0, s0, t0⟩ := hfs 0 f0 rfl
        obtain ⟨v1, y1, c1, s1, t1⟩ := hfs 1 f1 rfl
        obtain ⟨v2, y2, c2, s2, t2⟩ := hfs 2 f2 rfl
        obtain ⟨v3, y3, c3, s3, t3⟩ := hfs 3 f3 rfl
        rw [e0] at t0
        rw [e1] at t1
        rw [e2] at t2
        rw [e3] at t3
        obtain ⟨n0, g0, _, w0⟩ := DataW.trod_int hi t0
        obtain ⟨n1, g1, _, w1⟩ := DataW.trod_int hi t1
        obtain ⟨n2, g2, _, w2⟩ := DataW.trod_int hk t2
        obtain ⟨Ab, xs, kb, g3, hr, hbk⟩ := open_bytes_cell hq hk ck t3
        simp only [List.cons.injEq, and_true] at g0 g1 g2
        subst g0 g1 g2 g3
        refine ⟨(⟨n0, n1, toB n2, xs⟩, Ab, kb), fun _ => ⟨(bounds_i64 w1).2, hr, fun j u hj => ?_, ?_⟩⟩
        · have hb2 := bv_toB w2
          unfold bv at hb2
          simp only [callCells, hb2] at hj
          match j, hj with
          | 0, hj => simp at hj; subst hj; exact c0
          | 1, hj => simp at hj; subst hj; exact c1
          | 2, hj => simp at hj; subst hj; exact c2
          | 3, hj => simp at hj; subst hj; exact c3
          | j + 4, hj => simp at hj
        · match ys, hyl, s0, s1, s2, s3 with
          | [z0, z1, z2, z3], _, s0, s1, s2, s3 =>
            simp at s0 s1 s2 s3
            subst s0 s1 s2 s3
            have b0 := bulk_one z0.1
            have b1 := bulk_one z1.1
            have b2 := bulk_one z2.1
            rw [hD]
            simp only [List.map_cons, List.map_nil, Rows.uptoBulk, Rows.uptoBulkAll]
            omega
      · exact ⟨(⟨0, 0, 0, []⟩, none, 0), fun h => absurd h hn⟩
    obtain ⟨X, hX⟩ := Classical.axiomOfChoice hcell
    refine ⟨some a, (List.range len0).map fun n => (X n).1, m, by simp, ⟨(List.range len0).flatMap fun n => (callCells (X n).1 (X n).2.1 (X n).2.2).toList, ⟨?_, fun hn => ⟨a, rfl, ?_, fun j u hj => ?_⟩⟩, fun j c hj => ?_⟩, ?_⟩
    · rw [flatK_len _ 4 (fun _ => rfl)]; simp
    · have h0 : 0 < len0 := by simpa using hn
      have := cell_lt ((hX 0 h0).at_ 0 _ rfl)
      rwa [block_of_add] at this
    · have hjl : j < len0 * 4 := by
        have := (List.getElem?_eq_some_iff.1 hj).1
        rwa [flatK_len _ 4 (fun _ => rfl)] at this
      have hdm : j = j / 4 * 4 + j % 4 := by omega
      rw [hdm, flatK_get _ 4 (fun _ => rfl) len0 (j / 4) (j % 4) (by omega) (by omega), Array.getElem?_toList] at hj
      rw [hdm]
      exact (hX (j / 4) (by omega)).at_ _ _ hj
    · have hj' : j < len0 := by simpa using (List.getElem?_eq_some_iff.1 hj).1
      rw [List.getElem?_map, List.getElem?_range hj'] at hj
      simp only [Option.map_some, Option.some.injEq] at hj
      subst hj
      have hx := hX j hj'
      refine ⟨hx.n, (X j).2.1, (X j).2.2, hx.rd, fun n u hu => ?_⟩
      have hn4 : n < 4 := by
        rcases Nat.lt_or_ge n 4 with h | h
        · exact h
        · rw [Array.getElem?_eq_none (by simpa [callCells] using h)] at hu; cases hu
      rw [flatK_get _ 4 (fun _ => rfl) len0 j n hj' hn4, Array.getElem?_toList]
      exact hu
    · simp only [Rows.uptoBulk]
      have : ∀ l : List Nat, (∀ n ∈ l, n < len0) → callsLen (l.map fun n => (X n).1) ≤ Rows.uptoBulkAll (l.map D) := by
        intro l
        induction l with
        | nil => intro _; simp [callsLen, Rows.uptoBulkAll]
        | cons n l ih =>
          intro hl
          have h1 := ih fun m hm => hl m (List.mem_cons_of_mem _ hm)
          have h2 := (hX n (hl n (List.mem_cons_self ..))).bulk
          unfold callsLen at h1 ⊢
          simp only [List.map_cons, List.sum_cons, Rows.uptoBulkAll]
          omega
      have := this (List.range len0) (fun n hn => List.mem_range.1 hn)
      omega
end

set_option maxRecDepth 100000 in
theorem open_calls' {H : Type} {enc : TypeId × Value → H} {W : World} {r : Reach} {b0 : Nat} {v : Value} {d : DataW H} {p : List MemPlace} (hval : Value.okWide Tryd.prog W r b0 23 v) (h : DataW.Trod enc Tryd.prog W 0 (fun _ => true) true 23 v d p) :
    ∃ (A : Option Addr) (cs : List CallD) (c : Nat), v = .slice A cs.length c ∧ CallsAt W W.heap.size A cs ∧ callsLen cs ≤ Rows.uptoBulk d :=
  open_calls Tryd.underlying23 Tryd.underlying34 (by kernel_rfl) (by kernel_rfl) rfl rfl rfl rfl Tryd.underlying3 Tryd.underlying5 Tryd.underlying25 cells5 hval h
end Go.Proofs.YtancmlapnhccdaaDoor
