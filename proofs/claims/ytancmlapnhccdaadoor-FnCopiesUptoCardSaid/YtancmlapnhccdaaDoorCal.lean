/- A reader and a writer in one: what the thin package's call leaves. -/
import Derived.Test.YtancmlapnhccdaaDoorRru
import Derived.Test.YtancmlapnhccdaaDoorRsb
import Derived.Test.YtancmlapnhccdaaDoorWrn
namespace Go.Proofs.YtancmlapnhccdaaDoor
open Go.RowKit

/-- where a ReadWriter lies -/
structure BL where
  L : RL
  W : WL
  RW : Nat
/-- what it may write -/
def boX (b : BL) (v : Value) : Nat → Prop := fun k => rdX b.L k ∨ wtX b.W v k

structure Both (w : World) (E : Nat → Addr) (b : BL) (s : RS) (t : WS) (v : Value) : Prop where
  rdr : RdrAt w E b.L s
  wtr : WtrAt w b.W t v
  rw : Blk w b.RW 74 #[.pointer (some ⟨b.L.R, 0, none⟩), .pointer (some ⟨b.W.W, 0, none⟩)]
  ap : ∀ k, wtX b.W v k → ¬ rdX b.L k
  nR : ¬ rdX b.L b.RW
  nW : ¬ wtX b.W v b.RW
  bN : b.L.B ≤ b.W.N
  bRW : b.L.B ≤ b.RW
  eof : s.eof = true → s.src.flatten = []
  tabs : Lib.Utf8Tabs 9 10 w

section
variable {w w' : World} {E : Nat → Addr} {b : BL} {s s' : RS} {t t' : WS} {v v' : Value}
theorem Both.ge (h : Both w E b s t v) : ∀ k, boX b v k → b.L.B ≤ k := by
  rintro k (hx | hx)
  · exact rdX_ge h.rdr k hx
  · exact Nat.le_trans h.bN (h.wtr.ge k hx)
theorem Both.lt (h : Both w E b s t v) : ∀ k, boX b v k → k < w.heap.size := by
  rintro k (hx | hx)
  · exact rdX_lt h.rdr k hx
  · exact h.wtr.lt k hx
theorem Both.twelve (h : Both w E b s t v) : 12 ≤ b.L.B := h.rdr.env.five
/-- other blocks have turned -/
theorem Both.still {X : Nat → Prop} (h : Both w E b s t v) (hk : Keep X w w') (hX : ∀ k, X k → b.L.B ≤ k ∧ ¬ boX b v k ∧ k ≠ b.RW) : Both w' E b s t v where
  rdr := h.rdr.keep hk (fun k hx => (hX k hx).1) (fun k hx hr => (hX k hx).2.1 (.inl hr))
  wtr := h.wtr.keep hk (fun k hx hr => (hX k hx).2.1 (.inr hr))
  rw := h.rw.keep hk (fun hx => (hX _ hx).2.2 rfl)
  ap := h.ap
  nR := h.nR
  nW := h.nW
  bN := h.bN
  bRW := h.bRW
  eof := h.eof
  tabs := tabs_keep h.tabs hk (fun k hx => Nat.le_trans h.twelve (hX k hx).1) (Nat.le_trans h.twelve h.rdr.size)
/-- new blocks alone -/
theorem Both.below (h : Both w E b s t v) (hb : Below w.heap.size w w') : Both w' E b s t v := h.still (Keep.ofBelow hb (fun _ => False)) (fun _ h => h.elim)
theorem Both.drew (h : Both w E b s t v) : Both w.drew E b s t v := h.still ((Keep.refl (fun _ => False) w).drew) (fun _ h => h.elim)
theorem Both.drewN (h : Both w E b s t v) (n : Nat) : Both (w.drewN n) E b s t v := h.still ((Keep.refl (fun _ => False) w).drewN n) (fun _ h => h.elim)
theorem Both.read (h : Both w E b s t v) (hr : RdrAt w' E b.L s') (hk : Keep (rdX b.L) w w') (he : s'.eof = true → s'.src.flatten = []) : Both w' E b s' t v where
  rdr := hr
  wtr := h.wtr.keep hk (fun k hx hw => h.ap k hw hx)
  rw := h.rw.keep hk h.nR
  ap := h.ap
  nR := h.nR
  nW := h.nW
  bN := h.bN
  bRW := h.bRW
  eof := he
  tabs := tabs_keep h.tabs hk (fun k hx => Nat.le_trans h.twelve (rdX_ge h.rdr k hx)) (Nat.le_trans h.twelve h.rdr.size)
theorem Both.write (h : Both w E b s t v) (hn : WNext b.W t' v w w') : ∃ v', Both w' E b s t' v' ∧ (∀ k, v'.ownBlock = some k → v.ownBlock = some k ∨ w.heap.size ≤ k) ∧ Keep (wtX b.W v) w w' := by
  obtain ⟨v', h1, h2, h3⟩ := hn
  refine ⟨v', ⟨?_, h1, h.rw.keep h3 h.nW, ?_, h.nR, ?_, h.bN, h.bRW, h.eof, ?_⟩, h2, h3⟩
  · exact h.rdr.keep h3 (fun k hx => Nat.le_trans h.bN (h.wtr.ge k hx)) (fun k hx => h.ap k hx)
  · intro k hk hr
    rcases wtX_next h2 k hk with e | e
    · exact h.ap k e hr
    · have := rdX_lt h.rdr k hr; omega
  · intro hk
    rcases wtX_next h2 _ hk with e | e
    · exact h.nW e
    · have := h.rw.lt; omega
  · exact tabs_keep h.tabs h3 (fun k hx => Nat.le_trans h.twelve (Nat.le_trans h.bN (h.wtr.ge k hx))) (Nat.le_trans h.twelve h.rdr.size)
end

/-- a call as a value -/
def callV (c : CallD) (A : Option Addr) (k : Nat) : Value := .agg #[.int .i64 c.kind, .int .i64 c.n, .int .u8 (c.delim.toNat : Int), .slice A c.bytes.length k]
def callCells (c : CallD) (A : Option Addr) (k : Nat) : Array Value := #[.int .i64 c.kind, .int .i64 c.n, .int .u8 (c.delim.toNat : Int), .slice A c.bytes.length k]
def outCells (A : Option Addr) (l c : Nat) (n err : Int) : Array Value := #[.slice A l c, .int .i64 n, .int .i64 err]

/-- the two blocks that call lays first -/
def calW (w : World) (c : CallD) (A : Option Addr) (k : Nat) : World := (w.alloc (.cells (callCells c A k) 34)).alloc (.cells (outCells none 0 0 0 0) 36)

theorem calW_below (w : World) (c : CallD) (A : Option Addr) (k : Nat) : Below w.heap.size w (calW w c A k) := ((Below.refl _ _).alloc (Nat.le_refl _) _).alloc (by simp) _
theorem calW_blk (w : World) (c : CallD) (A : Option Addr) (k : Nat) : Blk (calW w c A k) w.heap.size 34 (callCells c A k) ∧ Blk (calW w c A k) (w.heap.size + 1) 36 (outCells none 0 0 0 0) :=
  ⟨(Blk.new w 34 _).alloc _, Blk.newAt _ 36 _ (by simp)⟩

/-- what call gives -/
def CallGave (E : Nat → Addr) (b : BL) (s' : RS) (t' : WS) (v : Value) (o : OutD) (w : World) (e : Ending) (w' : World) : Prop :=
  ∃ v' A c, Both w' E b s' t' v' ∧ (∀ k, v'.ownBlock = some k → v.ownBlock = some k ∨ w.heap.size ≤ k) ∧ Keep (boX b v) w w' ∧ e = .returned (.agg (outCells A o.bytes.length c o.n ((o.err : Nat) : Int))) ∧
    Reads w' w'.heap.size 1 A o.bytes.length (bvs o.bytes) ∧ (0 < o.bytes.length → ∃ ad, A = some ad ∧ w.heap.size ≤ ad.block ∧ v'.ownBlock ≠ some ad.block)

/-- the last store of call: into its own block -/
def outW (w1 : World) (g : Nat) (a : Value) (n err : Int) : World := ((w1.setCell ⟨g, 0, none⟩ a).setCell ⟨g, 1, none⟩ (.int .i64 n)).setCell ⟨g, 2, none⟩ (.int .i64 err)
theorem outW_keep (w1 : World) (g : Nat) (a : Value) (n err : Int) : Keep (· = g) w1 (outW w1 g a n err) :=
  (((Keep.refl (· = g) w1).setCell (p := ⟨g, 0, none⟩) (.inl rfl) _).setCell (p := ⟨g, 1, none⟩) (.inl rfl) _).setCell (p := ⟨g, 2, none⟩) (.inl rfl) _

theorem call_close {E : Nat → Addr} {b : BL} {s s' : RS} {t t' : WS} {v v' : Value} {o : OutD} {w w1 : World} {e : Ending} {A : Option Addr} {c g : Nat} {cs : Array Value} (h : Both w E b s t v) (h1 : Both w1 E b s' t' v') (hv : ∀ k, v'.ownBlock = some k → v.ownBlock = some k ∨ w.heap.size ≤ k)
    (hk : Keep (boX b v) w w1) (hg : w.heap.size ≤ g) (hb : Blk w1 g 36 cs) (hr : Reads w1 w1.heap.size 1 A o.bytes.length (bvs o.bytes)) (hA : 0 < o.bytes.length → ∃ ad, A = some ad ∧ w.heap.size ≤ ad.block ∧ v'.ownBlock ≠ some ad.block ∧ ad.block ≠ g)
    (he : e = .returned (.agg (outCells A o.bytes.length c o.n ((o.err : Nat) : Int)))) : CallGave E b s' t' v o w e (outW w1 g (.slice A o.bytes.length c) o.n ((o.err : Nat) : Int)) := by
  have hk2 := outW_keep w1 g (.slice A o.bytes.length c) o.n ((o.err : Nat) : Int)
  have hgn : ¬ boX b v' g := by
    rintro (hx | hx)
    · have := h.lt g (.inl hx); omega
    · rcases wtX_next hv g hx with e | e
      · have := h.lt g (.inr e); omega
      · rcases hx with q | q | q | q
        · exact h1.wtr.blk.ne_ hb (by decide) q.symm
        · exact h1.wtr.buf.ne_ hb (by decide) q.symm
        · exact h1.wtr.snk.1.ne_ hb (by decide) q.symm
        · exact own_blk_ne h1.wtr.snk.2 hb (by decide) q
  have hLB : b.L.B ≤ g := Nat.le_trans h.rdr.size hg
  refine ⟨v', A, c, h1.still hk2 (fun k e => by
    subst e
    exact ⟨hLB, hgn, fun e => by have := h.rw.lt; omega⟩), hv, hk.then hk2 (fun k e => .inr (by rw [e]; exact hg)), he, ?_, fun h0 => ?_⟩
  · refine ⟨hr.1, fun h0 => ?_⟩
    obtain ⟨ad, e1, e2, e3, e4⟩ := hA h0
    obtain ⟨ad', f1, f2, f3⟩ := hr.2 h0
    rw [e1] at f1
    injection f1 with f1
    subst f1
    exact ⟨ad, e1, Nat.lt_of_lt_of_le f2 hk2.size, fun j u hj => (hk2.cell (p := ad.add j) (by rw [block_of_add]; exact f2) (by rw [block_of_add]; exact e4)).trans (f3 j u hj)⟩
  · obtain ⟨ad, e1, e2, e3, e4⟩ := hA h0
    exact ⟨ad, e1, e2, e3⟩
end Go.Proofs.YtancmlapnhccdaaDoor
