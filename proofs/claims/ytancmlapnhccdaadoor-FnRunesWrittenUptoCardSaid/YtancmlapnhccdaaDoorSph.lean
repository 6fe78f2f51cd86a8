/- spec.Answers: what lies where; the plain steps. -/
import Derived.Test.YtancmlapnhccdaaDoorSpg
namespace Go.Proofs.YtancmlapnhccdaaDoor
open Go.RowKit

/-- the blocks that Answers goes on writing -/
def anX (R : Nat) (ro ra : Value) : Nat → Prop := fun k => k = R ∨ ro.ownBlock = some k ∨ ra.ownBlock = some k
structure AnsAt (R : Nat) (A : Option Addr) (c N : Nat) (w : World) (a : AS) (i : Nat) (ro ra : Value) (flat : List Value) (wr : World) : Prop where
  sr : SRAt wr R A c a.r
  own : wr.ownsRow N 36 3 ro i flat
  all : wr.ownsRow N 5 1 ra a.all.length (bvs a.all)
  outs : OutsAt wr (anX R ro ra) flat a.outs
  len : a.outs.length = i
  below : Below w.heap.size w wr
  size : N ≤ wr.heap.size
  bR : w.heap.size ≤ R
  bN : R < N

section
variable {R : Nat} {A : Option Addr} {c N : Nat} {w wr w4 w5 : World} {a a' : AS} {i : Nat} {ro ra ro' ra' : Value} {flat : List Value}
theorem AnsAt.owned (h : AnsAt R A c N w a i ro ra flat wr) (hk : Keep (fun k => k = R ∨ ra.ownBlock = some k) wr w4) : w4.ownsRow N 36 3 ro i flat := by
  refine own_keep h.own hk ?_
  rintro k hk (e | e)
  · have := (h.own.lt k hk).1
    have := h.bN
    omega
  · exact own_own_ne h.own h.all (by decide) k hk e
theorem AnsAt.allKept (h : AnsAt R A c N w a i ro ra flat wr) (hk : Keep (fun k => k = R) wr w4) : w4.ownsRow N 5 1 ra a.all.length (bvs a.all) := by
  refine own_keep h.all hk ?_
  intro k hk e
  have := (h.all.lt k hk).1
  have := h.bN
  omega
theorem AnsAt.step {Ao : Option Addr} {ko : Nat} {o : OutD} (h : AnsAt R A c N w a i ro ra flat wr) (hsr : SRAt w4 R A c a'.r) (hk : Keep (fun k => k = R ∨ ra.ownBlock = some k) wr w4)
    (hall : w4.ownsRow N 5 1 ra' a'.all.length (bvs a'.all)) (hra : ∀ k, ra'.ownBlock = some k → ra.ownBlock = some k ∨ wr.heap.size ≤ k) (ho : a'.outs = a.outs ++ [o])
    (hr : Reads w4 w4.heap.size 1 Ao o.bytes.length (bvs o.bytes)) (hA : 0 < o.bytes.length → ∃ ad, Ao = some ad ∧ wr.heap.size ≤ ad.block ∧ ra'.ownBlock ≠ some ad.block)
    (hown : w5.ownsRow N 36 3 ro' (i + 1) (flat ++ (outCells Ao o.bytes.length ko o.n ((o.err : Nat) : Int)).toList)) (hg : (w4.alloc (.cells (outCells Ao o.bytes.length ko o.n ((o.err : Nat) : Int)) 36)).grownBy w5 ro.ownBlock)
    (hro : ro'.ownBlock = ro.ownBlock ∨ ro'.ownBlock = some (w4.alloc (.cells (outCells Ao o.bytes.length ko o.n ((o.err : Nat) : Int)) 36)).heap.size) :
    AnsAt R A c N w a' (i + 1) ro' ra' (flat ++ (outCells Ao o.bytes.length ko o.n ((o.err : Nat) : Int)).toList) w5 := by
  have hsz4 : (w4.alloc (.cells (outCells Ao o.bytes.length ko o.n ((o.err : Nat) : Int)) 36)).heap.size = w4.heap.size + 1 := by simp
  rw [hsz4] at hro
  have hrl : ∀ k, ro.ownBlock = some k → N ≤ k ∧ k < wr.heap.size := fun k hk => h.own.lt k hk
  have hal : ∀ k, ra.ownBlock = some k → N ≤ k ∧ k < wr.heap.size := fun k hk => h.all.lt k hk
  have hk45 : Keep (fun k => ro.ownBlock = some k) w4 w5 := ((Keep.refl _ w4).alloc _).grown hg (fun k hk => .inl hk)
  have s14 := hk.size
  have s45 := hk45.size
  have hbR := h.bR
  have hbN := h.bN
  have hk15 : Keep (anX R ro ra) wr w5 := (hk.mono (fun k e => e.elim .inl (fun e => .inr (.inr e)))).trans (hk45.mono (fun k e => .inr (.inl e)))
  have hne : ∀ k, ro.ownBlock = some k → ra'.ownBlock ≠ some k := by
    intro k hk hk'
    rcases hra k hk' with e | e
    · exact own_own_ne h.own h.all (by decide) k hk e
    · have := hrl k hk; omega
  have hnx : ∀ k, anX R ro' ra' k → anX R ro ra k ∨ wr.heap.size ≤ k := by
    rintro k (e | e | e)
    · exact .inl (.inl e)
    · rcases hro with q | q
      · rw [q] at e; exact .inl (.inr (.inl e))
      · rw [q] at e; injection e; exact .inr (by omega)
    · rcases hra k e with e | e
      · exact .inl (.inr (.inr e))
      · exact .inr e
  refine ⟨?_, hown, ?_, ?_, ?_, ?_, ?_, hbR, hbN⟩
  · exact hsr.keep hk45 (fun k e => by have := hrl k e; omega)
  · exact own_keep hall hk45 (fun k e e' => hne k e' e)
  · rw [ho]
    have hl : flat.length = a.outs.length * 3 := by rw [h.len]; exact h.own.1
    refine OutsAt.snoc (h.outs.keep hk15 (fun _ e => e) hnx) hl rfl ?_
    have hnew : OutAt w4 (fun k => anX R ro ra' k) (outCells Ao o.bytes.length ko o.n ((o.err : Nat) : Int)).toList o := by
      refine ⟨Ao, ko, rfl, hr, fun h0 => ?_⟩
      obtain ⟨ad, e1, e2, e3⟩ := hA h0
      refine ⟨ad, e1, ?_⟩
      rintro (q | q | q)
      · have := h.sr.blk.lt; omega
      · have := hrl _ q; omega
      · exact e3 q
    refine hnew.keep hk45 (fun _ e => .inr (.inl e)) ?_
    rintro k (e | e | e)
    · exact .inl (.inl e)
    · rcases hro with q | q
      · rw [q] at e; exact .inl (.inr (.inl e))
      · rw [q] at e; injection e; exact .inr (by omega)
    · exact .inl (.inr (.inr e))
  · rw [ho, List.length_append, h.len]; rfl
  · refine h.below.trans (hk15.below ?_ h.below.size)
    rintro k (e | e | e)
    · omega
    · have := hrl k e; omega
    · have := hal k e; omega
  · have := h.size; omega
end

/-- what Answers gives -/
def Ans21 (data : List UInt8) (cs : List CallD) (w : World) (e : Ending) (w' : World) : Prop :=
  ∃ a ca v flat, e = .returned (.tuple #[.slice a cs.length ca, v, .int .i64 ((((as0 data).run cs).flushed : Nat) : Int), .bool ((as0 data).run cs).told]) ∧ w'.ownsRow w.heap.size 36 3 (.slice a cs.length ca) cs.length flat ∧ OutsAt w' (fun _ => False) flat ((as0 data).run cs).outs ∧
    w'.ownsRow w.heap.size 5 1 v ((as0 data).run cs).all.length (bvs ((as0 data).run cs).all) ∧ Below w.heap.size w w'

theorem rdB_iff (x : CallD) : rdB x = true ↔ isRd x := by simp [rdB]
theorem wrB_iff (x : CallD) : wrB x = true ↔ isWr x := by simp [wrB]
theorem isReading_is (x : CallD) (A : Option Addr) (k : Nat) (w : World) (b : Bool) (h : rdB x = b) : Calls Tryd.prog 27 #[callV x A k] w (Is27 b x A k w) := by rw [← h]; exact isReading27 x A k w
theorem isWriting_is (x : CallD) (A : Option Addr) (k : Nat) (w : World) (b : Bool) (h : wrB x = b) : Calls Tryd.prog 28 #[callV x A k] w (Is27 b x A k w) := by rw [← h]; exact isWriting28 x A k w
theorem step_rd (a : AS) (x : CallD) (h : rdB x = true) : a.step x = { a with r := (a.r.call x).1, outs := a.outs ++ [(a.r.call x).2.1], told := a.told && (a.r.call x).2.2 } := by
  unfold AS.step; rw [if_pos ((rdB_iff x).1 h)]
theorem step_wr (a : AS) (x : CallD) (h : rdB x = false) (h2 : wrB x = true) : a.step x = { a with outs := a.outs ++ [wrOut x], all := a.all ++ wrote x, flushed := if x.kind = 12 then (a.all ++ wrote x).length else a.flushed } := by
  unfold AS.step
  rw [if_neg (fun e => by rw [(rdB_iff x).2 e] at h; cases h), if_pos ((wrB_iff x).1 h2)]
theorem step_no (a : AS) (x : CallD) (h : rdB x = false) (h2 : wrB x = false) : a.step x = { a with outs := a.outs ++ [noOut] } := by
  unfold AS.step
  rw [if_neg (fun e => by rw [(rdB_iff x).2 e] at h; cases h), if_neg (fun e => by rw [(wrB_iff x).2 e] at h2; cases h2)]
theorem wrOut_shape (x : CallD) : (wrOut x).bytes = [] ∧ (wrOut x).err = 0 := by
  unfold wrOut
  split
  · exact ⟨rfl, rfl⟩
  · split <;> exact ⟨rfl, rfl⟩
end Go.Proofs.YtancmlapnhccdaaDoor
