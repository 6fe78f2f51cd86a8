/- bufio.Reader: readErr and writeBuf. -/
import Derived.Test.YtancmlapnhccdaaDoorFill
import Derived.Test.YtancmlapnhccdaaDoorSnk
namespace Go.Proofs.YtancmlapnhccdaaDoor
open Go.RowKit

/-- one field of the reader is stored -/
theorem RdrAt.store {w : World} {E : Nat → Addr} {L : RL} {s s' : RS} (h : RdrAt w E L s) (i : Nat) (u : Value) (hc : rdCells E L s' = (rdCells E L s).setIfInBounds i u) (hb : s'.buf = s.buf) (hs : s'.src = s.src) (ok : s'.Ok) :
    RdrAt (w.setCell ⟨L.R, i, none⟩ u) E L s' ∧ Keep (rdX L) w (w.setCell ⟨L.R, i, none⟩ u) := by
  have hk : Keep (rdX L) w (w.setCell ⟨L.R, i, none⟩ u) := (Keep.refl _ w).setCell (p := ⟨L.R, i, none⟩) (.inl (.inl rfl)) _
  refine ⟨h.upd ?_ ?_ ?_ ok hk, hk⟩
  · rw [hc]; exact h.blk.set_ i u
  · rw [hb]; exact h.buf.far (p := ⟨L.R, i, none⟩) (Ne.symm h.neRB) _
  · rw [hs]
    have k1 : Keep (· = L.R) w (w.setCell ⟨L.R, i, none⟩ u) := (Keep.refl (· = L.R) w).setCell (p := ⟨L.R, i, none⟩) (.inl rfl) _
    exact h.src.keep k1 (Ne.symm h.neS) (Ne.symm h.neP) h.size (fun k e => by rw [e]; exact h.bR)

set_option maxHeartbeats 400000 in
theorem readErr61 (E : Nat → Addr) (L : RL) (s : RS) (w : World) (h : RdrAt w E L s) :
    Calls Tryd.prog 61 #[.pointer (some ⟨L.R, 0, none⟩)] w fun e w' => e = .returned (eofV E s.eof) ∧ RdrAt w' E L { s with eof := false } ∧ Keep (rdX L) w w' := by
  have c4 : w.cell? ⟨L.R, 4, none⟩ = some (eofV E s.eof) := h.blk.cell 4
  have g4 := h.free 4
  have H := Lib.hid h; clear h
  generalize hv : eofV E s.eof = v at c4 ⊢
  have Hv := Lib.hid hv; clear hv
  go_enter Tryd.func61, Tryd.ntmps61
  go_wp2
  go_ret
  have hc := H.out.store (s' := { s with eof := false }) 4 .nilIface rfl rfl rfl ⟨H.out.ok.rw, H.out.ok.wn, H.out.ok.lo, H.out.ok.hi, H.out.ok.lb0, H.out.ok.lb1, H.out.ok.lr0, H.out.ok.lr1⟩
  exact ⟨rfl, hc.1, hc.2⟩

theorem meth_write (K : Nat) (w : World) : (method 265 61 (.pointer (some ⟨K, 0, none⟩)) "Write").run Tryd.prog w = .ok (98, .pointer (some ⟨K, 0, none⟩)) w := by kernel_rfl
theorem nil_write (K : Nat) (w : World) : (nilAhead 265 61 (.pointer (some ⟨K, 0, none⟩)) "Write").run Tryd.prog w = .ok (some false) w := by kernel_rfl

/-- a sink apart from a reader -/
structure Apart (L : RL) (K N : Nat) (v : Value) : Prop where
  k : ¬ rdX L K
  bK : L.B ≤ K
  v : ∀ k, v.ownBlock = some k → ¬ rdX L k
  bN : L.B ≤ N

/-- what a sink holds behind a step: the row is the elder one or a new one -/
def SnkNext (K N : Nat) (v : Value) (got : List UInt8) (w w' : World) : Prop :=
  ∃ v', SnkAt w' K N v' got ∧ ∀ k, v'.ownBlock = some k → v.ownBlock = some k ∨ w.heap.size ≤ k

theorem SnkAt.keep {X : Nat → Prop} {w w' : World} {K N : Nat} {v : Value} {got : List UInt8} (h : SnkAt w K N v got) (hk : Keep X w w') (hK : ¬ X K) (hv : ∀ k, v.ownBlock = some k → ¬ X k) : SnkAt w' K N v got :=
  ⟨h.1.keep hk hK, own_keep h.2 hk hv⟩
theorem SnkAt.below {w : World} {K N : Nat} {v : Value} {got : List UInt8} (h : SnkAt w K N v got) : ∀ k, v.ownBlock = some k → N ≤ k ∧ k < w.heap.size := fun k hk => h.2.lt k hk

def wbX (L : RL) (K : Nat) (v : Value) : Nat → Prop := fun k => rdX L k ∨ snkX K v k

def WroteBuf (E : Nat → Addr) (L : RL) (s : RS) (K N : Nat) (v : Value) (got : List UInt8) (w : World) (e : Ending) (w' : World) : Prop :=
  e = .returned (.tuple #[.int .i64 ((s.w - s.r : Nat) : Int), .nilIface]) ∧ RdrAt w' E L { s with r := s.w } ∧ SnkNext K N v (got ++ avail s) w w' ∧ Keep (wbX L K v) w w'

set_option maxHeartbeats 1000000 in
theorem writeBuf59 (E : Nat → Addr) (L : RL) (s : RS) (K N : Nat) (v : Value) (got : List UInt8) (w : World) (h : RdrAt w E L s) (hs : SnkAt w K N v got) (ha : Apart L K N v) (hN : N ≤ w.heap.size) (hroom : Room (got.length + s.w)) :
    Calls Tryd.prog 59 #[.pointer (some ⟨L.R, 0, none⟩), .iface 61 (.pointer (some ⟨K, 0, none⟩))] w (WroteBuf E L s K N v got w) := by
  have hrw := h.ok.rw
  have hwn := h.ok.wn
  have hav := avail_length s h.ok
  have hsl := slice_lh L.RB s.buf.length s.r s.w hrw hwn
  have hmt := fun w => meth_write K w
  have hnl := fun w => nil_write K w
  have hrd : Reads w.drew (L.RB + 1) 1 (cutA L.RB s.buf.length s.r) (avail s).length (bvs (avail s)) := by
    rw [hav]
    have := Reads.of_blk (A := cutA L.RB s.buf.length s.r) (Blk.drew h.buf) s.r (s.w - s.r) (by rw [bvs_length]; omega) (fun h0 => cutA_pos (by omega))
    rw [← bvs_drop, ← bvs_take] at this
    exact this
  have hc := snk98 K N v got (avail s) (cutA L.RB s.buf.length s.r) (L.RB + 1) (s.buf.length - s.r) w.drew (hs.keep (Keep.refl (fun _ => False) w).drew (fun x => x) (fun _ _ x => x)) hrd (hroom.mono (by omega)) hN
  rw [hav] at hc
  have HC := Lib.hid hc; clear hc hrd
  have k0 := Lib.hid (And.intro h.cells.1 (And.intro h.cells.2.2.1 h.cells.2.2.2.1))
  have hns : ∀ k, snkX K v k → ¬ rdX L k := by
    rintro k (rfl | hk)
    · exact ha.k
    · exact ha.v k hk
  have hbs : ∀ k, snkX K v k → L.B ≤ k := by
    rintro k (rfl | hk)
    · exact ha.bK
    · exact Nat.le_trans ha.bN (hs.below k hk).1
  have i0 : (0 : Int) ≤ ((s.w - s.r : Nat) : Int) := by omega
  have i1 : (s.r : Int) + ((s.w - s.r : Nat) : Int) ≤ 255 := by have := h.ok.hi; omega
  have H := Lib.hid (And.intro h (And.intro hns hbs)); clear h hns hbs
  have Hav := Lib.hid hav; clear hav
  go_enter Tryd.func59, Tryd.ntmps59
  go_wp2_with fail
  go_region_held3 (fun w' => w'.cell? ⟨L.R, 0, none⟩ = some (.slice (some ⟨L.RB, 0, none⟩) s.buf.length s.buf.length) ∧ w'.cell? ⟨L.R, 2, none⟩ = some (.int .i64 (s.r : Nat)) ∧ w'.cell? ⟨L.R, 3, none⟩ = some (.int .i64 (s.w : Nat))) (first | exact k0.out | exact k1.out)
    (first | (go_at_call 98; refine HC.out.mono ?_; rintro e w1 ⟨rfl, v1, hs1, hv1, hk1⟩; have h1 := H.out.1.drew.keep hk1 H.out.2.2 H.out.2.1; have k1 := Lib.hid (And.intro h1.cells.1 (And.intro h1.cells.2.2.1 h1.cells.2.2.2.1)); have H1 := Lib.hid (And.intro h1 (And.intro hs1 (And.intro hv1 hk1))); clear h1 hs1 hv1 hk1 k0))
  have c2 : w1.cell? ⟨L.R, 2, none⟩ = some (.int .i64 (s.r : Nat)) := H1.out.1.blk.cell 2
  have g2 := H1.out.1.free 2
  clear k1
  go_wp2_with fail
  go_ret2
  obtain ⟨h1, hs1, hv1, hk1⟩ := H1.out
  have hw : wrap64 ((s.r : Int) + ((avail s).length : Int)) = (s.w : Int) := by
    rw [Hav.out, wrap_add s.r (s.w - s.r) (by have := h1.ok.hi; omega)]; omega
  have hc := h1.store (s' := { s with r := s.w }) 2 (.int .i64 (wrap64 ((s.r : Int) + ((avail s).length : Int)))) (by rw [hw]; rfl) rfl rfl ⟨Nat.le_refl _, h1.ok.wn, h1.ok.lo, h1.ok.hi, h1.ok.lb0, h1.ok.lb1, h1.ok.lr0, h1.ok.lr1⟩
  have kk : Keep (wbX L K v) w w1 := (Keep.refl _ w).drew.trans (hk1.mono (fun k hk => .inr hk))
  have hx1 : ∀ k, v1.ownBlock = some k → ¬ rdX L k := by
    intro k hk
    rcases hv1 with e | e
    · exact ha.v k (e ▸ hk)
    · rw [e] at hk
      injection hk with hk
      subst hk
      rintro (e | e | e | e)
      · have := H.out.1.blk.lt; rw [← e] at this; exact Nat.lt_irrefl _ this
      · have := H.out.1.buf.lt; rw [← e] at this; exact Nat.lt_irrefl _ this
      · obtain ⟨A, c, o, row, q1, q2, _⟩ := H.out.1.src; have := q1.lt; rw [← e] at this; exact Nat.lt_irrefl _ this
      · obtain ⟨A, c, o, row, q1, q2, _⟩ := H.out.1.src; have := q2.lt; rw [← e] at this; exact Nat.lt_irrefl _ this
  refine ⟨by rw [Hav.out]; rfl, hc.1, ⟨v1, hs1.keep hc.2 ha.k hx1, fun k hk => ?_⟩, kk.trans (hc.2.mono (fun k hk => .inl hk))⟩
  rcases hv1 with e | e
  · exact .inl (e ▸ hk)
  · rw [e] at hk; injection hk with hk; exact .inr (Nat.le_of_eq hk)
end Go.Proofs.YtancmlapnhccdaaDoor
