/- Calls in a row of one's own; append on such a row. -/
import Derived.Test.YtancmlapnhccdaaDoorLrn
namespace Go.Proofs.YtancmlapnhccdaaDoor
open Go.RowKit

theorem Tryd.info34 : (Tryd.prog.info? 34).map (fun i => (i.zero, i.size, i.bytes)) = some (some (.agg #[.int .i64 0, .int .i64 0, .int .u8 0, .slice none 0 0]), 4, 48) := by kernel_rfl

/-- the cells of calls, four each -/
def CallsFlat (w : World) (B : Nat) (vs : List Value) (cs : List CallD) : Prop :=
  vs.length = cs.length * 4 ∧ ∀ (j : Nat) (c : CallD), cs[j]? = some c → c.n ≤ 9223372036854775807 ∧ ∃ Ab kb, Reads w B 1 Ab c.bytes.length (bvs c.bytes) ∧ ∀ (i : Nat) (u : Value), (callCells c Ab kb)[i]? = some u → vs[j * 4 + i]? = some u
section
variable {w w' : World} {B B' : Nat} {vs vs' : List Value} {cs cs' : List CallD}
theorem CallsFlat.nil : CallsFlat w B [] [] := ⟨rfl, fun j c h => by simp at h⟩
theorem CallsFlat.below (h : CallsFlat w B vs cs) (hb : Below B w w') : CallsFlat w' B vs cs := by
  refine ⟨h.1, fun j c hj => ?_⟩
  obtain ⟨h0, Ab, kb, h3, h4⟩ := h.2 j c hj
  exact ⟨h0, Ab, kb, h3.below hb, h4⟩
theorem CallsFlat.more (h : CallsFlat w B vs cs) (hB : B ≤ B') : CallsFlat w B' vs cs := by
  refine ⟨h.1, fun j c hj => ?_⟩
  obtain ⟨h0, Ab, kb, h3, h4⟩ := h.2 j c hj
  exact ⟨h0, Ab, kb, h3.more hB, h4⟩
theorem CallsFlat.append (h : CallsFlat w B vs cs) (h' : CallsFlat w B vs' cs') : CallsFlat w B (vs ++ vs') (cs ++ cs') := by
  refine ⟨by rw [List.length_append, List.length_append, h.1, h'.1, Nat.add_mul], fun j c hj => ?_⟩
  rcases Nat.lt_or_ge j cs.length with hl | hl
  · rw [List.getElem?_append_left hl] at hj
    obtain ⟨h0, Ab, kb, h3, h4⟩ := h.2 j c hj
    refine ⟨h0, Ab, kb, h3, fun i u hu => ?_⟩
    have := h4 i u hu
    rw [List.getElem?_append_left (List.getElem?_eq_some_iff.1 this).1]
    exact this
  · rw [List.getElem?_append_right hl] at hj
    obtain ⟨h0, Ab, kb, h3, h4⟩ := h'.2 _ c hj
    refine ⟨h0, Ab, kb, h3, fun i u hu => ?_⟩
    have := h4 i u hu
    have hx : vs.length ≤ j * 4 + i := by rw [h.1]; omega
    rw [List.getElem?_append_right hx, h.1]
    have e : j * 4 + i - cs.length * 4 = (j - cs.length) * 4 + i := by omega
    rw [e]
    exact this
theorem CallsFlat.one {c : CallD} {Ab : Option Addr} {kb : Nat} (hn : c.n ≤ 9223372036854775807) (hr : Reads w B 1 Ab c.bytes.length (bvs c.bytes)) : CallsFlat w B (callCells c Ab kb).toList [c] := by
  refine ⟨rfl, fun j c' hj => ?_⟩
  rcases j with _ | j
  · simp only [List.getElem?_cons_zero, Option.some.injEq] at hj
    subst hj
    exact ⟨hn, Ab, kb, hr, fun i u hu => by rw [Nat.zero_mul, Nat.zero_add, Array.getElem?_toList]; exact hu⟩
  · simp at hj
theorem CallsAt.flat {A : Option Addr} (h : CallsAt w B A cs) : ∃ vs, Reads w B 4 A cs.length vs ∧ CallsFlat w B vs cs := by
  obtain ⟨vs, h1, h2⟩ := h
  exact ⟨vs, h1, h1.1, h2⟩
theorem calls_own {N n c : Nat} {A : Option Addr} (hn : n = cs.length) (ho : w.ownsRow N 34 4 (.slice A n c) n vs) (hf : CallsFlat w B vs cs) (hB : B ≤ w.heap.size) : CallsAt w w.heap.size A cs := by
  subst hn
  have := (hf.more hB).2
  exact ⟨vs, Reads.of_own ho, this⟩
end
theorem call_reads (w2 : World) (c : CallD) (Ab : Option Addr) (kb : Nat) : Reads (w2.alloc (.cells (callCells c Ab kb) 34)) (w2.alloc (.cells (callCells c Ab kb) 34)).heap.size 4 (some ⟨w2.heap.size, 0, none⟩) 1 (callCells c Ab kb).toList := by
  refine ⟨rfl, fun _ => ⟨_, rfl, by simp, fun j u hj => ?_⟩⟩
  rw [add_mk, Nat.zero_add, (Blk.new w2 34 (callCells c Ab kb)).cell j]
  rw [← hj, Array.getElem?_toList]
theorem call_one (c : CallD) (Ab : Option Addr) (kb : Nat) : ∀ u ∈ (callCells c Ab kb).toList, u.oneCell' = true := by
  intro u hu
  simp only [callCells, List.mem_cons, List.not_mem_nil, or_false] at hu
  rcases hu with rfl | rfl | rfl | rfl <;> rfl
theorem flat_one {w : World} {B : Nat} {vs : List Value} {cs : List CallD} (h : CallsFlat w B vs cs) : ∀ u ∈ vs, u.oneCell' = true := by
  intro u hu
  obtain ⟨k, hk, rfl⟩ := List.mem_iff_getElem.1 hu
  have hl := h.1
  have hj : k / 4 < cs.length := by omega
  obtain ⟨_, Ab, kb, _, h4⟩ := h.2 (k / 4) _ (List.getElem?_eq_getElem hj)
  have h5 := h4 (k % 4) ((callCells cs[k / 4] Ab kb)[k % 4]'(by simp [callCells]; omega)) (Array.getElem?_eq_getElem _)
  have e : k / 4 * 4 + k % 4 = k := by omega
  rw [e, List.getElem?_eq_getElem hk] at h5
  injection h5 with h5
  rw [h5]
  exact call_one cs[k / 4] Ab kb _ (by rw [Array.mem_toList_iff]; exact Array.getElem_mem _)
theorem callsLen_append (cs ds : List CallD) : callsLen (cs ++ ds) = callsLen cs + callsLen ds := by unfold callsLen; rw [List.map_append, List.sum_append]

/-- a row of calls of one's own has been gone on with; what lay below it is as it was -/
theorem grown_below {N : Nat} {w wr w1 d : World} {v : Value} {n size : Nat} {e : TypeId} {xs : List Value} (h : Below w.heap.size w wr) (hd : Below wr.heap.size wr d) (ho : wr.ownsRow N e size v n xs) (hg : d.grownBy w1 v.ownBlock) (hBN : w.heap.size ≤ N) : Below w.heap.size w w1 := by
  have h1 := (h.trans (hd.mono h.size))
  exact h1.grown hg h1.size (fun k hk => Nat.le_trans hBN (ho.lt k hk).1)
end Go.Proofs.YtancmlapnhccdaaDoor
