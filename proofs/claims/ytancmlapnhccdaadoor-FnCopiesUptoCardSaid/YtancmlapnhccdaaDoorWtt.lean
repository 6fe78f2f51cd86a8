/- Joined by merge.py out of: Wtr, Wrm, Wri, Wrw. -/
import Derived.Test.YtancmlapnhccdaaDoorIwt

/- bufio.Writer over a sink: what it holds; Available, Buffered, Flush. -/
namespace Go.Proofs.YtancmlapnhccdaaDoor
open Go.RowKit

/-- where a writer lies: its block, its buffer's, its sink's; all from block N on -/
structure WL where
  W : Nat
  WB : Nat
  K : Nat
  N : Nat
/-- what a writer over a sink holds -/
structure WS where
  buf : List UInt8
  n : Nat
  got : List UInt8

structure WtrAt (w : World) (L : WL) (s : WS) (v : Value) : Prop where
  blk : Blk w L.W 121 (wtCells L.WB L.K s.buf.length s.n)
  buf : Blk w L.WB 5 (bvs s.buf).toArray
  snk : SnkAt w L.K L.N v s.got
  vb : v.ownBlock ≠ some L.WB
  le : s.n ≤ s.buf.length
  lo : 1 ≤ s.buf.length
  hi : s.buf.length ≤ 4096
  bW : L.N ≤ L.W
  bWB : L.N ≤ L.WB
  bK : L.N ≤ L.K
  size : L.N ≤ w.heap.size

/-- what a writer may write -/
def wtX (L : WL) (v : Value) : Nat → Prop := fun k => k = L.W ∨ k = L.WB ∨ k = L.K ∨ v.ownBlock = some k
theorem WtrAt.ge {w : World} {L : WL} {s : WS} {v : Value} (h : WtrAt w L s v) : ∀ k, wtX L v k → L.N ≤ k := by
  rintro k (e | e | e | e)
  · rw [e]; exact h.bW
  · rw [e]; exact h.bWB
  · rw [e]; exact h.bK
  · exact (h.snk.below k e).1
theorem WtrAt.lt {w : World} {L : WL} {s : WS} {v : Value} (h : WtrAt w L s v) : ∀ k, wtX L v k → k < w.heap.size := by
  rintro k (e | e | e | e)
  · rw [e]; exact h.blk.lt
  · rw [e]; exact h.buf.lt
  · rw [e]; exact h.snk.1.lt
  · exact (h.snk.below k e).2
theorem WtrAt.keep {X : Nat → Prop} {w w' : World} {L : WL} {s : WS} {v : Value} (h : WtrAt w L s v) (hk : Keep X w w') (hX : ∀ k, X k → ¬ wtX L v k) : WtrAt w' L s v where
  blk := h.blk.keep hk (fun hx => hX _ hx (.inl rfl))
  buf := h.buf.keep hk (fun hx => hX _ hx (.inr (.inl rfl)))
  snk := h.snk.keep hk (fun hx => hX _ hx (.inr (.inr (.inl rfl)))) (fun _ hv hx => hX _ hx (.inr (.inr (.inr hv))))
  vb := h.vb
  le := h.le
  lo := h.lo
  hi := h.hi
  bW := h.bW
  bWB := h.bWB
  bK := h.bK
  size := Nat.le_trans h.size hk.size
theorem WtrAt.drewN {w : World} {L : WL} {s : WS} {v : Value} (h : WtrAt w L s v) (n : Nat) : WtrAt (w.drewN n) L s v := h.keep ((Keep.refl (fun _ => False) w).drewN n) (fun _ h => h.elim)
theorem WtrAt.drew {w : World} {L : WL} {s : WS} {v : Value} (h : WtrAt w L s v) : WtrAt w.drew L s v := h.keep ((Keep.refl (fun _ => False) w).drew) (fun _ h => h.elim)
theorem WtrAt.cells {w : World} {L : WL} {s : WS} {v : Value} (h : WtrAt w L s v) :
    w.cell? ⟨L.W, 0, none⟩ = some .nilIface ∧ w.cell? ⟨L.W, 1, none⟩ = some (.slice (some ⟨L.WB, 0, none⟩) s.buf.length s.buf.length) ∧ w.cell? ⟨L.W, 2, none⟩ = some (.int .i64 (s.n : Nat)) ∧ w.cell? ⟨L.W, 3, none⟩ = some (.iface 61 (.pointer (some ⟨L.K, 0, none⟩))) :=
  ⟨h.blk.cell 0, h.blk.cell 1, h.blk.cell 2, h.blk.cell 3⟩
theorem WtrAt.free {w : World} {L : WL} {s : WS} {v : Value} (h : WtrAt w L s v) (i : Nat) : w.frozen? ⟨L.W, i, none⟩ = false := h.blk.frozen i
theorem WtrAt.neB {w : World} {L : WL} {s : WS} {v : Value} (h : WtrAt w L s v) : L.W ≠ L.WB := h.blk.ne_ h.buf (by decide)
theorem WtrAt.neK {w : World} {L : WL} {s : WS} {v : Value} (h : WtrAt w L s v) : L.W ≠ L.K := h.blk.ne_ h.snk.1 (by decide)
theorem WtrAt.neBK {w : World} {L : WL} {s : WS} {v : Value} (h : WtrAt w L s v) : L.WB ≠ L.K := h.buf.ne_ h.snk.1 (by decide)
theorem WtrAt.vW {w : World} {L : WL} {s : WS} {v : Value} (h : WtrAt w L s v) : v.ownBlock ≠ some L.W := own_blk_ne h.snk.2 h.blk (by decide)

/-- the number of bytes in the buffer is set -/
theorem WtrAt.setN {w : World} {L : WL} {s : WS} {v : Value} (h : WtrAt w L s v) (n : Nat) (hn : n ≤ s.buf.length) :
    WtrAt (w.setCell ⟨L.W, 2, none⟩ (.int .i64 (n : Nat))) L { s with n := n } v ∧ Keep (wtX L v) w (w.setCell ⟨L.W, 2, none⟩ (.int .i64 (n : Nat))) := by
  have hk : Keep (· = L.W) w (w.setCell ⟨L.W, 2, none⟩ (.int .i64 (n : Nat))) := (Keep.refl (· = L.W) w).setCell (p := ⟨L.W, 2, none⟩) (.inl rfl) _
  refine ⟨⟨?_, h.buf.keep hk (Ne.symm h.neB), h.snk.keep hk (Ne.symm h.neK) (fun k hv e => h.vW (by rw [hv, e])), h.vb, hn, h.lo, h.hi, h.bW, h.bWB, h.bK, Nat.le_trans h.size hk.size⟩, hk.mono (fun k e => .inl e)⟩
  have := h.blk.set_ 2 (.int .i64 (n : Nat))
  simpa [wtCells] using this

/-- what a writer holds behind a step -/
def WNext (L : WL) (s' : WS) (v : Value) (w w' : World) : Prop :=
  ∃ v', WtrAt w' L s' v' ∧ (∀ k, v'.ownBlock = some k → v.ownBlock = some k ∨ w.heap.size ≤ k) ∧ Keep (wtX L v) w w'

theorem available62 (L : WL) (s : WS) (v : Value) (w : World) (h : WtrAt w L s v) :
    Calls Tryd.prog 62 #[.pointer (some ⟨L.W, 0, none⟩)] w fun e w' => e = .returned (.int .i64 ((s.buf.length - s.n : Nat) : Int)) ∧ ∃ m, w' = w.drewN m := by
  obtain ⟨c0, c1, c2, c3⟩ := h.cells
  have hle := h.le
  have hhi := h.hi
  have hw : IntKind.i64.wrap ((s.buf.length : Int) - (s.n : Int)) = ((s.buf.length - s.n : Nat) : Int) := by
    rw [IntWalk.i64_in _ (by omega)]; omega
  clear h
  go_enter Tryd.func62, Tryd.ntmps62
  go_wp2_with fail
  go_quiet (fail)
  go_wp2_with fail
  go_ret
  refine ⟨?_, nq, rfl⟩
  first
    | rfl
    | (refine congrArg (fun x => Ending.returned (Value.int .i64 x)) ?_
       first | exact hw | (rw [IntWalk.wrap64_in _ (by omega)]; omega))

theorem buffered63 (L : WL) (s : WS) (v : Value) (w : World) (h : WtrAt w L s v) :
    Calls Tryd.prog 63 #[.pointer (some ⟨L.W, 0, none⟩)] w fun e w' => e = .returned (.int .i64 (s.n : Nat)) ∧ w' = w := by
  obtain ⟨c0, c1, c2, c3⟩ := h.cells
  clear h
  go_enter Tryd.func63, Tryd.ntmps63
  go_wp2_with fail
  go_ret
  exact ⟨rfl, rfl⟩

theorem slice_0h (g n hi : Nat) (h2 : hi ≤ n) (w : World) :
    (Instr.slice 25 (.slice (some ⟨g, 0, none⟩) n n) (some (.int .i64 0)) (some (.int .i64 (hi : Nat))) none).run Tryd.prog w = .ok (.slice (some ⟨g, 0, none⟩) hi n) w := by
  have := slice_lh g n 0 hi (Nat.zero_le _) h2 w
  simpa [cutA] using this

def flushM (s : WS) : WS := { s with n := 0, got := s.got ++ s.buf.take s.n }
def Flushed (L : WL) (s : WS) (v : Value) (w : World) (e : Ending) (w' : World) : Prop := e = .returned .nilIface ∧ WNext L (flushM s) v w w'

/-- the sink has taken the buffer -/
theorem WtrAt.took {w w1 : World} {L : WL} {s : WS} {v v1 : Value} {new : List UInt8} (h : WtrAt w L s v) (hs : SnkAt w1 L.K L.N v1 (s.got ++ new)) (hv : v1.ownBlock = v.ownBlock ∨ v1.ownBlock = some w.heap.size) (hk : Keep (snkX L.K v) w w1) : WtrAt w1 L { s with got := s.got ++ new } v1 where
  blk := h.blk.keep hk (by
    rintro (e | e)
    · exact h.neK e
    · exact h.vW e)
  buf := h.buf.keep hk (by
    rintro (e | e)
    · exact h.neBK e
    · exact h.vb e)
  snk := hs
  vb := by
    rcases hv with e | e <;> rw [e]
    · exact h.vb
    · have := h.buf.lt
      intro e; injection e with e; omega
  le := h.le
  lo := h.lo
  hi := h.hi
  bW := h.bW
  bWB := h.bWB
  bK := h.bK
  size := Nat.le_trans h.size hk.size

set_option maxRecDepth 100000 in
set_option maxHeartbeats 1000000 in
theorem flush38 (L : WL) (s : WS) (v : Value) (w : World) (h : WtrAt w L s v) (hroom : Room (s.got.length + s.n)) :
    Calls Tryd.prog 38 #[.pointer (some ⟨L.W, 0, none⟩)] w (Flushed L s v w) := by
  obtain ⟨c0, c1, c2, c3⟩ := h.cells
  have hle := h.le
  have hhi := h.hi
  by_cases h0 : s.n = 0
  · have H := Lib.hid h; clear h
    have H0 := Lib.hid h0
    rw [h0] at c2
    clear h0 hle hhi hroom
    go_enter Tryd.func38, Tryd.ntmps38
    go_wp2_with fail
    go_ret
    refine ⟨rfl, v, ?_, fun k hk => .inl hk, Keep.refl _ _⟩
    have e : flushM s = s := by
      obtain ⟨b, n, g⟩ := s
      have := H0.out
      simp at this
      subst this
      simp [flushM]
    rw [e]; exact H.out
  · have hne : decide ((s.n : Int) = 0) = false := by simp; omega
    have hsl := slice_0h L.WB s.buf.length s.n hle
    have hmt := fun w => meth_write L.K w
    have hnl := fun w => nil_write L.K w
    have hlen : (s.buf.take s.n).length = s.n := by simp; omega
    have hrd : Reads w.drew (L.WB + 1) 1 (some ⟨L.WB, 0, none⟩) (s.buf.take s.n).length (bvs (s.buf.take s.n)) := by
      rw [hlen]
      have := Reads.of_blk (A := some ⟨L.WB, 0, none⟩) (Blk.drew h.buf) 0 s.n (by rw [bvs_length]; omega) (fun _ => rfl)
      rw [List.drop_zero, ← bvs_take] at this
      exact this
    have hc := snk98 L.K L.N v s.got (s.buf.take s.n) (some ⟨L.WB, 0, none⟩) (L.WB + 1) s.buf.length w.drew (h.drew.snk) hrd (hroom.mono (by omega)) h.size
    rw [hlen] at hc
    have HC := Lib.hid hc; clear hc hrd
    have k0 := Lib.hid (And.intro h.cells.2.1 (And.intro h.cells.2.2.1 h.cells.2.2.2))
    have H := Lib.hid h; clear h
    have Hlen := Lib.hid hlen; clear hlen
    go_enter Tryd.func38, Tryd.ntmps38
    go_wp2_with fail
    clear c0 c1 c2 c3
    go_region_held3 (fun w' => w'.cell? ⟨L.W, 1, none⟩ = some (.slice (some ⟨L.WB, 0, none⟩) s.buf.length s.buf.length) ∧ w'.cell? ⟨L.W, 2, none⟩ = some (.int .i64 (s.n : Nat)) ∧ w'.cell? ⟨L.W, 3, none⟩ = some (.iface 61 (.pointer (some ⟨L.K, 0, none⟩)))) (first | exact k0.out | exact k1.out)
      (first | (go_at_call 98; refine HC.out.mono ?_; rintro e w1 ⟨rfl, v1, hs1, hv1, hk1⟩; have h1 := H.out.drew.took hs1 hv1 hk1; have k1 := Lib.hid (And.intro h1.cells.2.1 (And.intro h1.cells.2.2.1 h1.cells.2.2.2)); have H1 := Lib.hid (And.intro h1 (And.intro hv1 hk1)); clear h1 hs1 hv1 hk1 k0))
    have c2 : w1.cell? ⟨L.W, 2, none⟩ = some (.int .i64 (s.n : Nat)) := k1.out.2.1
    have g2 := H1.out.1.free 2
    clear k1
    go_wp2_with fail
    go_ret
    obtain ⟨h1, hv1, hk1⟩ := H1.out
    have h2 := h1.setN 0 (Nat.zero_le _)
    have hv2 : ∀ k, v1.ownBlock = some k → v.ownBlock = some k ∨ w.heap.size ≤ k := by
      intro k hk
      rcases hv1 with e | e
      · exact .inl (e ▸ hk)
      · rw [e] at hk; injection hk with hk; exact .inr (Nat.le_of_eq hk)
    have kk : Keep (wtX L v) w w1 := (Keep.refl _ w).drew.trans (hk1.mono (fun k hk => by
      rcases hk with e | e
      · exact .inr (.inr (.inl e))
      · exact .inr (.inr (.inr e))))
    refine ⟨rfl, v1, h2.1, hv2, kk.then h2.2 ?_⟩
    rintro k (e | e | e | e)
    · exact .inl (.inl e)
    · exact .inl (.inr (.inl e))
    · exact .inl (.inr (.inr (.inl e)))
    · rcases hv2 k e with e | e
      · exact .inl (.inr (.inr (.inr e)))
      · exact .inr e
end Go.Proofs.YtancmlapnhccdaaDoor

/- bufio.Writer's Write as a machine over lists. -/
namespace Go.Proofs.YtancmlapnhccdaaDoor
open Go.RowKit

/-- bytes that fit go behind what is in the buffer -/
def putM (s : WS) (p : List UInt8) : WS := { s with buf := splice s.buf s.n p, n := s.n + p.length }
/-- the sink takes bytes at once -/
def directM (s : WS) (p : List UInt8) : WS := { s with got := s.got ++ p }
/-- the buffer is filled and flushed -/
def spillM (s : WS) (p : List UInt8) : WS := flushM (putM s (p.take (s.buf.length - s.n)))
def writeF : Nat → WS → List UInt8 → WS
  | 0, s, p => putM s p
  | k + 1, s, p => if p.length ≤ s.buf.length - s.n then putM s p else if s.n = 0 then writeF k (directM s p) [] else writeF k (spillM s p) (p.drop (s.buf.length - s.n))
/-- how many rounds are left -/
def rank (s : WS) (p : List UInt8) : Nat := if p.length ≤ s.buf.length - s.n then 0 else if s.n = 0 then 1 else 2
def writeM (s : WS) (p : List UInt8) : WS := writeF (rank s p) s p

theorem rank_nil (s : WS) : rank s [] = 0 := by simp [rank]
theorem rank_zero (s : WS) (p : List UInt8) (h : s.n = 0) : rank s p ≤ 1 := by
  unfold rank
  split
  · omega
  · omega
theorem writeF_fit (k : Nat) (s : WS) (p : List UInt8) (h : p.length ≤ s.buf.length - s.n) : writeF k s p = putM s p := by
  cases k with
  | zero => rfl
  | succ k => simp [writeF, h]
theorem writeF_direct (k : Nat) (s : WS) (p : List UInt8) (h : ¬ p.length ≤ s.buf.length - s.n) (h0 : s.n = 0) : writeF (k + 1) s p = writeM (directM s p) [] := by
  simp only [writeF, if_neg h, if_pos h0]
  unfold writeM
  rw [writeF_fit k _ _ (by simp), writeF_fit _ _ _ (by simp)]
theorem writeM_direct (s : WS) (p : List UInt8) (h : ¬ p.length ≤ s.buf.length - s.n) (h0 : s.n = 0) : writeM s p = writeM (directM s p) [] := by
  have : rank s p = 1 := by unfold rank; rw [if_neg h, if_pos h0]
  rw [writeM, this, writeF_direct 0 s p h h0]
theorem writeF_one (s : WS) (p : List UInt8) (h0 : s.n = 0) (k : Nat) : writeF (k + 1) s p = writeM s p := by
  by_cases h : p.length ≤ s.buf.length - s.n
  · rw [writeF_fit _ _ _ h, writeM, writeF_fit _ _ _ h]
  · rw [writeF_direct k s p h h0, writeM_direct s p h h0]
theorem writeM_spill (s : WS) (p : List UInt8) (h : ¬ p.length ≤ s.buf.length - s.n) (h0 : ¬ s.n = 0) : writeM s p = writeM (spillM s p) (p.drop (s.buf.length - s.n)) := by
  have : rank s p = 2 := by unfold rank; rw [if_neg h, if_neg h0]
  rw [writeM, this]
  simp only [writeF, if_neg h, if_neg h0]
  exact writeF_one (spillM s p) _ rfl 0
theorem writeM_fit (s : WS) (p : List UInt8) (h : p.length ≤ s.buf.length - s.n) : writeM s p = putM s p := by rw [writeM, writeF_fit _ _ _ h]

/-- what a writer has taken in all -/
def taken (s : WS) : List UInt8 := s.got ++ s.buf.take s.n
structure WS.Ok (s : WS) : Prop where
  le : s.n ≤ s.buf.length
theorem putM_len (s : WS) (p : List UInt8) (h : s.n ≤ s.buf.length) (hp : p.length ≤ s.buf.length - s.n) : (putM s p).buf.length = s.buf.length := length_splice _ _ _ (by omega)
theorem putM_taken (s : WS) (p : List UInt8) (h : s.n ≤ s.buf.length) (hp : p.length ≤ s.buf.length - s.n) : taken (putM s p) = taken s ++ p := by
  unfold taken putM
  simp only
  rw [take_splice_end _ _ _ (by omega), List.append_assoc]
theorem flushM_taken (s : WS) : taken (flushM s) = taken s := by simp [taken, flushM]
theorem directM_taken (s : WS) (p : List UInt8) (h0 : s.n = 0) : taken (directM s p) = taken s ++ p := by simp [taken, directM, h0]
theorem spillM_taken (s : WS) (p : List UInt8) (h : s.n ≤ s.buf.length) : taken (spillM s p) = taken s ++ p.take (s.buf.length - s.n) := by
  unfold spillM
  rw [flushM_taken, putM_taken s _ h (by simp; omega)]
theorem spillM_len (s : WS) (p : List UInt8) (h : s.n ≤ s.buf.length) : (spillM s p).buf.length = s.buf.length := putM_len s _ h (by simp; omega)
end Go.Proofs.YtancmlapnhccdaaDoor

/- bufio.Writer.Write: the walk. -/
namespace Go.Proofs.YtancmlapnhccdaaDoor
open Go.RowKit

/-- bytes in block g from place o on -/
def RowAt (w : World) (g o : Nat) (p : List UInt8) : Prop := ∀ (j : Nat) (b : UInt8), p[j]? = some b → w.cell? ⟨g, o + j, none⟩ = some (bv b)
theorem RowAt.reads {w : World} {g o : Nat} {p : List UInt8} (h : RowAt w g o p) : Reads w (g + 1) 1 (some ⟨g, o, none⟩) p.length (bvs p) := by
  refine ⟨by simp [bvs_length], fun _ => ⟨⟨g, o, none⟩, rfl, by simp, fun j u hj => ?_⟩⟩
  rw [bvs_get] at hj
  rcases hb : p[j]? with _ | b
  · rw [hb] at hj; cases hj
  · rw [hb] at hj
    simp only [Option.map_some, Option.some.injEq] at hj
    rw [add_mk, ← hj]
    exact h j b hb
theorem RowAt.keep {X : Nat → Prop} {w w' : World} {g o : Nat} {p : List UInt8} (h : RowAt w g o p) (hk : Keep X w w') (hg : g < w.heap.size) (hX : ¬ X g) : RowAt w' g o p := fun j b hj => (hk.cell (p := ⟨g, o + j, none⟩) hg hX).trans (h j b hj)
theorem RowAt.drop {w : World} {g o : Nat} {p : List UInt8} (h : RowAt w g o p) (k : Nat) : RowAt w g (o + k) (p.drop k) := fun j b hj => by
  rw [List.getElem?_drop] at hj
  have := h (k + j) b hj
  rw [← Nat.add_assoc] at this
  exact this
theorem RowAt.nil {w : World} {g o : Nat} : RowAt w g o [] := fun j b hj => by simp at hj

/-- where p[k:] begins -/
def cutO (o c k : Nat) : Nat := if c = k then o else o + k
theorem slice_k (g o n c k : Nat) (h1 : k ≤ n) (h2 : n ≤ c) (w : World) :
    (Instr.slice 25 (.slice (some ⟨g, o, none⟩) n c) (some (.int .i64 (k : Nat))) none none).run Tryd.prog w = .ok (.slice (some ⟨g, cutO o c k, none⟩) (n - k) (c - k)) w := by
  have i1 : (k : Int) ≤ (n : Int) := by omega
  by_cases h : c = k
  · have : n = k := by omega
    subst this
    subst h
    simp [go_sem, cutO]
  · simp [go_sem, cutO, i1, h]
theorem RowAt.cut {w : World} {g o c : Nat} {p : List UInt8} (h : RowAt w g o p) (k : Nat) (hc : p.length ≤ c) (hk : k ≤ p.length) : RowAt w g (cutO o c k) (p.drop k) := by
  unfold cutO
  split
  · rw [List.drop_of_length_le (by omega)]; exact RowAt.nil
  · exact h.drop k

def Wrote (L : WL) (s : WS) (v : Value) (p : List UInt8) (w : World) (e : Ending) (w' : World) : Prop :=
  e = .returned (.tuple #[.int .i64 (p.length : Nat), .nilIface]) ∧ WNext L (writeM s p) v w w'

/-- what holds at the head of Write's loop -/
structure WrAt (L : WL) (s : WS) (v : Value) (p : List UInt8) (g c : Nat) (w : World) (s' : WS) (v' : Value) (p' : List UInt8) (o' c' : Nat) (wr : World) : Prop where
  le : p'.length ≤ p.length
  cap : p'.length ≤ c'
  capc : c' ≤ c
  wtr : WtrAt wr L s' v'
  row : ∀ k, v'.ownBlock = some k → v.ownBlock = some k ∨ w.heap.size ≤ k
  keep : Keep (wtX L v) w wr
  at_ : RowAt wr g o' p'
  same : writeM s' p' = writeM s p
  all : taken s' ++ p' = taken s ++ p
def WrRel (L : WL) (s : WS) (v : Value) (p : List UInt8) (g c : Nat) (w : World) (k : Nat) (t1 t4 : Value) (wr : World) : Prop :=
  ∃ s' v' p' o' c', t1 = .slice (some ⟨g, o', none⟩) p'.length c' ∧ t4 = .int .i64 ((p.length - p'.length : Nat) : Int) ∧ WrAt L s v p g c w s' v' p' o' c' wr ∧ k = rank s' p'

theorem WtrAt.fit {w : World} {L : WL} {s : WS} {v : Value} (h : WtrAt w L s v) (p : List UInt8) (hp : p.length ≤ s.buf.length - s.n) : ((bvs p).length = p.length) ∧ s.n + (bvs p).length ≤ (bvs s.buf).length := by
  have := h.le
  rw [bvs_length, bvs_length]
  exact ⟨rfl, by omega⟩

/-- bytes have been copied into the buffer, and their number added -/
theorem WtrAt.put {w w2 : World} {L : WL} {s : WS} {v : Value} (h : WtrAt w L s v) (p : List UInt8) (hp : p.length ≤ s.buf.length - s.n) (hG : Blk w2 L.WB 5 (splice (bvs s.buf) s.n (bvs p)).toArray) (hK : Keep (· = L.WB) w w2) :
    WtrAt (w2.setCell ⟨L.W, 2, none⟩ (.int .i64 ((s.n + p.length : Nat) : Int))) L (putM s p) v ∧ Keep (wtX L v) w (w2.setCell ⟨L.W, 2, none⟩ (.int .i64 ((s.n + p.length : Nat) : Int))) := by
  have hle := h.le
  have hl := putM_len s p hle hp
  have h2 : WtrAt w2 L { s with buf := (putM s p).buf } v := {
    blk := by
      have := h.blk.keep hK h.neB
      show Blk w2 L.W 121 (wtCells L.WB L.K (putM s p).buf.length s.n)
      rw [hl]; exact this
    buf := by
      show Blk w2 L.WB 5 (bvs (splice s.buf s.n p)).toArray
      rw [← bvs_splice]; exact hG
    snk := h.snk.keep hK (Ne.symm h.neBK) (fun k hv e => h.vb (by rw [hv, e]))
    vb := h.vb
    le := by show s.n ≤ (putM s p).buf.length; rw [hl]; exact hle
    lo := by show 1 ≤ (putM s p).buf.length; rw [hl]; exact h.lo
    hi := by show (putM s p).buf.length ≤ 4096; rw [hl]; exact h.hi
    bW := h.bW
    bWB := h.bWB
    bK := h.bK
    size := Nat.le_trans h.size hK.size }
  have h3 := h2.setN (s.n + p.length) (by show _ ≤ (putM s p).buf.length; rw [hl]; omega)
  exact ⟨h3.1, (hK.mono (fun k e => .inr (.inl e))).trans h3.2⟩
end Go.Proofs.YtancmlapnhccdaaDoor

/- bufio.Writer.Write: the walk. -/
namespace Go.Proofs.YtancmlapnhccdaaDoor
open Go.RowKit

theorem wtX_next {w0 : World} {L : WL} {v v' : Value} (hr : ∀ k, v'.ownBlock = some k → v.ownBlock = some k ∨ w0.heap.size ≤ k) : ∀ k, wtX L v' k → wtX L v k ∨ w0.heap.size ≤ k := by
  rintro k (e | e | e | e)
  · exact .inl (.inl e)
  · exact .inl (.inr (.inl e))
  · exact .inl (.inr (.inr (.inl e)))
  · rcases hr k e with e | e
    · exact .inl (.inr (.inr (.inr e)))
    · exact .inr e

/-- no error is stored where none was -/
theorem WtrAt.setE {w : World} {L : WL} {s : WS} {v : Value} (h : WtrAt w L s v) : WtrAt (w.setCell ⟨L.W, 0, none⟩ .nilIface) L s v ∧ Keep (wtX L v) w (w.setCell ⟨L.W, 0, none⟩ .nilIface) := by
  have hk : Keep (· = L.W) w (w.setCell ⟨L.W, 0, none⟩ .nilIface) := (Keep.refl (· = L.W) w).setCell (p := ⟨L.W, 0, none⟩) (.inl rfl) _
  refine ⟨⟨?_, h.buf.keep hk (Ne.symm h.neB), h.snk.keep hk (Ne.symm h.neK) (fun k hv e => h.vW (by rw [hv, e])), h.vb, h.le, h.lo, h.hi, h.bW, h.bWB, h.bK, Nat.le_trans h.size hk.size⟩, hk.mono (fun k e => .inl e)⟩
  have := h.blk.set_ 0 .nilIface
  simpa [wtCells] using this
theorem WrAt.room {L : WL} {s : WS} {v : Value} {p : List UInt8} {g c : Nat} {w : World} {s' : WS} {v' : Value} {p' : List UInt8} {o' c' : Nat} {wr : World} (h : WrAt L s v p g c w s' v' p' o' c' wr) (hs : s.n ≤ s.buf.length) (hr : Room (s.got.length + s.n + p.length)) : Room (s'.got.length + s'.n + p'.length) := by
  have e := congrArg List.length h.all
  have := h.wtr.le
  simp [taken] at e
  exact hr.mono (by omega)

set_option maxRecDepth 100000 in
set_option maxHeartbeats 2000000 in
theorem write36 (L : WL) (s : WS) (v : Value) (p : List UInt8) (g o c : Nat) (w : World) (h : WtrAt w L s v) (hr : RowAt w g o p) (hg : g < w.heap.size) (hgX : ¬ wtX L v g) (hc : p.length ≤ c) (hroom : Room (s.got.length + s.n + p.length)) :
    Calls Tryd.prog 36 #[.pointer (some ⟨L.W, 0, none⟩), .slice (some ⟨g, o, none⟩) p.length c] w (Wrote L s v p w) := by
  have H := Lib.hid (And.intro h (And.intro hr (And.intro hg (And.intro hgX (And.intro hc hroom))))); clear h hr hg hgX hc hroom
  go_enter Tryd.func36, Tryd.ntmps36
  go_wp2_with fail
  go_loopg [1, 4] (rank s p) (fun k t1 t4 wr => WrRel L s v p g c w k t1 t4 wr)
  case atStart => exact ⟨s, v, p, o, c, rfl, by simp, ⟨Nat.le_refl _, H.out.2.2.2.2.1, Nat.le_refl _, H.out.1, fun k hk => .inl hk, Keep.refl _ _, H.out.2.1, rfl, rfl⟩, rfl⟩
  case round =>
    obtain ⟨s', v', p', o', c', ht1, ht4, hw, hk⟩ := hrel
    subst ht1 ht4
    have HW := Lib.hid hw; clear hw
    have Hk := Lib.hid hk; clear hk
    go_wp2_with fail
    refine (available62 L s' v' wr HW.out.wtr).mono ?_
    rintro e w1 ⟨rfl, m, rfl⟩
    have hq := HW.out.wtr.drewN m
    have hqr := HW.out.at_.keep ((Keep.refl (fun _ => False) wr).drewN m) (Nat.lt_of_lt_of_le H.out.2.2.1 HW.out.keep.size) (fun x => x)
    have hqk := HW.out.keep.drewN m
    generalize wr.drewN m = wq at *
    obtain ⟨c0, c1, c2, c3⟩ := hq.cells
    have hle := hq.le
    have hhi := hq.hi
    by_cases hf : p'.length ≤ s'.buf.length - s'.n
    · have hd : decide (s'.buf.length - s'.n < p'.length) = false := by simpa using hf
      have hsl := slice_l L.WB s'.buf.length s'.n hle
      have hcu : 0 < (bvs p').length → cutA L.WB s'.buf.length s'.n = some ⟨L.WB, s'.n, none⟩ := fun h0 => cutA_pos (by rw [bvs_length] at h0; omega)
      have hmn : (bvs p').length = Nat.min p'.length (s'.buf.length - s'.n) := by rw [bvs_length]; exact (Nat.min_eq_left hf).symm
      have hfit : s'.n + (bvs p').length ≤ (bvs s'.buf).length := by rw [bvs_length, bvs_length]; omega
      have hsrc : 0 < (bvs p').length → cutA L.WB s'.buf.length s'.n = some ⟨L.WB, s'.n, none⟩ ∧ ∃ ad, (some (⟨g, o', none⟩ : Addr)) = some ad ∧ ∀ j u, (bvs p')[j]? = some u → wq.drew.cell? (ad.add j) = some u := fun h0 => by
        obtain ⟨ad, e, _, hcell⟩ := hqr.reads.2 (by rw [bvs_length] at h0; exact h0)
        exact ⟨hcu h0, ad, e, fun j u hj => hcell j u hj⟩
      have HS := Lib.hid (And.intro hmn (And.intro hfit (And.intro hsrc (And.intro (bvs_one p') (Blk.drew hq.buf))))); clear hmn hfit hsrc hcu
      have HQ := Lib.hid (And.intro hq (And.intro hqr hqk)); clear hq hqr hqk
      go_wp2_with fail
      clear c0 c3
      refine wp_region_still_tail 10 (by kernel_rfl) (by kernel_rfl) ?_
      simp only [List.take_succ_cons, List.take_zero, List.drop_succ_cons, List.drop_zero]
      change wpStill _ _ wq.drew (fun a' => wpList _ _ _ _ a' wq.drew) _ _
      repeat still_step
      refine wpStill_nil ?_
      refine wpList_copy_keep rfl (.tmp 80) (.tmp 81) 25 25 rfl 5 Tryd.underlying25 Tryd.size5 (cutA L.WB s'.buf.length s'.n) (some ⟨g, o', none⟩) (s'.buf.length - s'.n) (s'.buf.length - s'.n) p'.length c' rfl rfl L.WB s'.n (bvs s'.buf) 5 HS.out.2.2.2.2 (bvs p') HS.out.1 HS.out.2.2.1 HS.out.2.1 HS.out.2.2.2.1 ?_
      intro w2 hG2 hK2
      go_simp
      have hput := HQ.out.1.drew.put p' hf hG2 hK2
      have hW2 := HQ.out.1.drew.blk.keep hK2 HQ.out.1.neB
      have d2 : w2.cell? ⟨L.W, 2, none⟩ = some (.int .i64 (s'.n : Nat)) := hW2.cell 2
      have e2 := hW2.frozen 2
      have HP := Lib.hid (And.intro hput hW2); clear hput hW2 hG2 hK2 c1 c2
      go_wp2_with fail
      go_ret2
      have hR := H.out.2.2.2.2.2
      unfold Room at hR
      have hpl := HW.out.le
      have en : wrap64 ((s'.n : Int) + ((bvs p').length : Int)) = ((s'.n + p'.length : Nat) : Int) := by rw [bvs_length, IntWalk.wrap64_in _ (by omega)]; omega
      have ep : wrap64 (((p.length - p'.length : Nat) : Int) + ((bvs p').length : Int)) = ((p.length : Nat) : Int) := by rw [bvs_length, IntWalk.wrap64_in _ (by omega)]; omega
      have hsame := HW.out.same
      rw [writeM_fit s' p' hf] at hsame
      rw [en]
      refine ⟨?_, v', by rw [← hsame]; exact HP.out.1.1, HW.out.row, ?_⟩
      · refine congrArg (fun x => Ending.returned (Value.tuple #[Value.int .i64 x, .nilIface])) ep
      · exact (HQ.out.2.2.drew).then HP.out.1.2 (wtX_next HW.out.row)
    · have hd : decide (s'.buf.length - s'.n < p'.length) = true := by simpa using hf
      by_cases h0 : s'.n = 0
      · have hmt := fun w => meth_write L.K w
        have hnl := fun w => nil_write L.K w
        have HQ := Lib.hid (And.intro hq (And.intro hqr hqk)); clear hq hqr hqk
        have c2' := c2
        rw [h0] at c2'
        go_wp2_with fail
        refine (buffered63 L s' v' wq HQ.out.1).mono ?_
        rintro e w2 ⟨rfl, rfl⟩
        rw [h0]
        go_wp2_with fail
        have hrm := HW.out.room H.out.1.le H.out.2.2.2.2.2
        refine (snk98 L.K L.N v' s'.got p' (some ⟨g, o', none⟩) (g + 1) c' _ HQ.out.1.snk HQ.out.2.1.reads (hrm.mono (by omega)) HQ.out.1.size).mono ?_
        rintro e w3 ⟨rfl, v3, hs3, hv3, hk3⟩
        have h3 := HQ.out.1.took hs3 hv3 hk3
        have e0 : w3.frozen? ⟨L.W, 0, none⟩ = false := h3.free 0
        have d0 := h3.cells.1
        have hsl := slice_k g o' p'.length c' p'.length (Nat.le_refl _) HW.out.cap
        have H3 := Lib.hid (And.intro h3 (And.intro hv3 hk3)); clear h3 hs3 hv3 hk3 c0 c1 c2 c3 c2'
        have hR := H.out.2.2.2.2.2
        unfold Room at hR
        have hpl := HW.out.le
        have hR2 : p.length ≤ 1000000000 := by omega
        clear hR
        go_wp2_with fail
        go_roundg (rank (directM s' p') [])
        case measure =>
          have := Hk.out
          rw [rank_nil]
          unfold rank at this
          rw [if_neg hf, if_pos h0] at this
          omega
        case rel =>
          obtain ⟨h3, hv3, hk3⟩ := H3.out
          have h4 := h3.setE
          have hv4 : ∀ k, v3.ownBlock = some k → v.ownBlock = some k ∨ w.heap.size ≤ k := by
            intro k hk
            rcases hv3 with e | e
            · exact HW.out.row k (e ▸ hk)
            · rw [e] at hk; injection hk with hk; exact .inr (by have := HQ.out.2.2.size; omega)
          have hkw : Keep (wtX L v) w w3 := HQ.out.2.2.then hk3 (fun k hk => by
            rcases hk with e | e
            · exact .inl (.inr (.inr (.inl e)))
            · rcases HW.out.row k e with e | e
              · exact .inl (.inr (.inr (.inr e)))
              · exact .inr e)
          refine ⟨directM s' p', v3, [], cutO o' c' p'.length, c' - p'.length, ?_, ?_, ⟨Nat.zero_le _, Nat.zero_le _, ?_, h4.1, hv4, hkw.then h4.2 (wtX_next hv4), RowAt.nil, ?_, ?_⟩, rfl⟩
          · simp
          · refine congrArg (Value.int .i64) ?_
            simp only [List.length_nil, Nat.sub_zero]
            first | omega | (rw [IntWalk.wrap64_in _ (by omega)]; omega)
          · have := HW.out.capc; omega
          · rw [← writeM_direct s' p' hf h0]; exact HW.out.same
          · rw [directM_taken s' p' h0, List.append_nil]; exact HW.out.all
      · obtain ⟨av, hav⟩ : ∃ av, av = s'.buf.length - s'.n := ⟨_, rfl⟩
        have hsl := slice_l L.WB s'.buf.length s'.n hle
        have hne : ((s'.n : Int) == 0) = false := by simp; omega
        have hcu : 0 < (bvs (p'.take av)).length → cutA L.WB s'.buf.length s'.n = some ⟨L.WB, s'.n, none⟩ := fun h0 => cutA_pos (by rw [bvs_length, List.length_take] at h0; omega)
        have htl : (p'.take av).length = av := by rw [List.length_take]; omega
        have hmn : (bvs (p'.take av)).length = Nat.min p'.length (s'.buf.length - s'.n) := by rw [bvs_length, htl, ← hav]; exact (Nat.min_eq_right (by omega)).symm
        have hfit : s'.n + (bvs (p'.take av)).length ≤ (bvs s'.buf).length := by rw [bvs_length, bvs_length, htl]; omega
        have hsrc : 0 < (bvs (p'.take av)).length → cutA L.WB s'.buf.length s'.n = some ⟨L.WB, s'.n, none⟩ ∧ ∃ ad, (some (⟨g, o', none⟩ : Addr)) = some ad ∧ ∀ j u, (bvs (p'.take av))[j]? = some u → wq.drew.cell? (ad.add j) = some u := fun h0 => by
          obtain ⟨ad, e, _, hcell⟩ := hqr.reads.2 (by rw [bvs_length, htl] at h0; omega)
          refine ⟨hcu h0, ad, e, fun j u hj => hcell j u ?_⟩
          rw [bvs_take, List.getElem?_take] at hj
          split at hj
          · exact hj
          · cases hj
        have HS := Lib.hid (And.intro hmn (And.intro hfit (And.intro hsrc (And.intro (bvs_one (p'.take av)) (And.intro (Blk.drew hq.buf) (And.intro hav htl)))))); clear hmn hfit hsrc hcu
        have HQ := Lib.hid (And.intro hq (And.intro hqr hqk)); clear hq hqr hqk
        have hbl : (bvs (p'.take av)).length = av := by rw [bvs_length, htl]
        have hR := H.out.2.2.2.2.2
        unfold Room at hR
        have hpl := HW.out.le
        have hR2 : p.length ≤ 1000000000 := by omega
        have hav2 : av ≤ 4096 := by omega
        have hn2 : s'.n ≤ 4096 := by omega
        have Hbl := Lib.hid hbl
        clear hav htl hR hbl
        go_wp2_with fail
        refine (buffered63 L s' v' wq HQ.out.1).mono ?_
        rintro e w2 ⟨rfl, rfl⟩
        go_wp2_with fail
        clear c0 c3
        refine wp_region_still_tail 10 (by kernel_rfl) (by kernel_rfl) ?_
        simp only [List.take_succ_cons, List.take_zero, List.drop_succ_cons, List.drop_zero]
        change wpStill _ _ w2.drew (fun a' => wpList _ _ _ _ a' w2.drew) _ _
        repeat still_step
        refine wpStill_nil ?_
        refine wpList_copy_keep rfl (.tmp 43) (.tmp 44) 25 25 rfl 5 Tryd.underlying25 Tryd.size5 (cutA L.WB s'.buf.length s'.n) (some ⟨g, o', none⟩) (s'.buf.length - s'.n) (s'.buf.length - s'.n) p'.length c' rfl rfl L.WB s'.n (bvs s'.buf) 5 HS.out.2.2.2.2.1 (bvs (p'.take av)) HS.out.1 HS.out.2.2.1 HS.out.2.1 HS.out.2.2.2.1 ?_
        intro w4 hG4 hK4
        rw [Hbl.out]
        go_simp
        have hput := HQ.out.1.drew.put (p'.take av) (by rw [HS.out.2.2.2.2.2.2, HS.out.2.2.2.2.2.1]; exact Nat.le_refl _) hG4 hK4
        have hW4 := HQ.out.1.drew.blk.keep hK4 HQ.out.1.neB
        have d2 : w4.cell? ⟨L.W, 2, none⟩ = some (.int .i64 (s'.n : Nat)) := hW4.cell 2
        have e2 := hW4.frozen 2
        rw [show ((s'.n + (p'.take av).length : Nat) : Int) = (s'.n : Int) + (av : Int) by rw [HS.out.2.2.2.2.2.2]; omega] at hput
        have hsl2 := slice_k g o' p'.length c' av (by have := HS.out.2.2.2.2.2.1; omega) HW.out.cap
        have HP := Lib.hid hput; clear hput hW4 hG4 hK4 c1 c2
        go_wp2_with fail
        have hrm := HW.out.room H.out.1.le H.out.2.2.2.2.2
        refine (flush38 L (putM s' (p'.take av)) v' _ HP.out.1 (by show Room (s'.got.length + (s'.n + (p'.take av).length)); rw [HS.out.2.2.2.2.2.2]; exact hrm.mono (by have := HS.out.2.2.2.2.2.1; omega))).mono ?_
        rintro e w5 ⟨rfl, v5, h5, hv5, hk5⟩
        have H5 := Lib.hid (And.intro h5 (And.intro hv5 hk5)); clear h5 hv5 hk5
        clear d2 e2
        go_wp2_with fail
        go_roundg (rank (spillM s' p') (p'.drop av))
        case measure =>
          have := Hk.out
          have h2 := rank_zero (spillM s' p') (p'.drop av) rfl
          unfold rank at this
          rw [if_neg hf, if_neg h0] at this
          omega
        case rel =>
          obtain ⟨h5, hv5, hk5⟩ := H5.out
          have hav := HS.out.2.2.2.2.2.1
          have hsp : spillM s' p' = flushM (putM s' (p'.take av)) := by rw [hav]; rfl
          have hkp : Keep (wtX L v) w (w4.setCell ⟨L.W, 2, none⟩ (.int .i64 ((s'.n : Int) + (av : Int)))) := (HQ.out.2.2.drew).then HP.out.2 (wtX_next HW.out.row)
          have hv6 : ∀ k, v5.ownBlock = some k → v.ownBlock = some k ∨ w.heap.size ≤ k := by
            intro k hk
            rcases hv5 k hk with e | e
            · exact HW.out.row k e
            · exact .inr (Nat.le_trans hkp.size e)
          have hkw : Keep (wtX L v) w w5 := hkp.then hk5 (wtX_next HW.out.row)
          have hrow : RowAt w5 g o' p' := by
            refine HQ.out.2.1.keep (X := wtX L v') (((Keep.refl _ w2).drew.trans HP.out.2).trans hk5) (Nat.lt_of_lt_of_le H.out.2.2.1 HQ.out.2.2.size) ?_
            intro hx
            rcases wtX_next HW.out.row g hx with e | e
            · exact H.out.2.2.2.1 e
            · have := H.out.2.2.1; omega
          refine ⟨spillM s' p', v5, p'.drop av, cutO o' c' av, c' - av, ?_, ?_, ⟨?_, ?_, ?_, by rw [hsp]; exact h5, hv6, hkw, ?_, ?_, ?_⟩, rfl⟩
          · rw [List.length_drop]
          · refine congrArg (Value.int .i64) ?_
            rw [List.length_drop]
            omega
          · rw [List.length_drop]; omega
          · rw [List.length_drop]; have := HW.out.cap; omega
          · have := HW.out.capc; omega
          · exact hrow.cut av HW.out.cap (by omega)
          · rw [← HW.out.same, writeM_spill s' p' hf h0, hav]
          · rw [spillM_taken s' p' hle, ← hav, List.append_assoc, List.take_append_drop]; exact HW.out.all
end Go.Proofs.YtancmlapnhccdaaDoor
