/- Joined by merge.py out of: Rda, Rdb, Rdc, Rdd. -/
import Derived.Test.YtancmlapnhccdaaDoorWbuf
import Derived.Test.YtancmlapnhccdaaDoorRmm

/- bufio.Reader: ReadByte. -/
namespace Go.Proofs.YtancmlapnhccdaaDoor
open Go.RowKit

/-- what a method of the reader gives, and how it stands then -/
def RdGave (E : Nat → Addr) (L : RL) (v : Value) (s' : RS) (w : World) (e : Ending) (w' : World) : Prop := e = .returned v ∧ RdrAt w' E L s' ∧ Keep (rdX L) w w'

theorem eofV_err (E : Nat → Addr) (b : Bool) : eofV E b = errV E (if b then 1 else 0) := by cases b <;> rfl
theorem RdrAt.byte {w : World} {E : Nat → Addr} {L : RL} {s : RS} (h : RdrAt w E L s) (i : Nat) (hi : i < s.buf.length) : w.cell? ⟨L.RB, i, none⟩ = some (bv (byteAt s i)) := by
  rw [h.buf.cell]
  simp [bvs, byteAt, List.getD, List.getElem?_eq_getElem hi]

theorem RS.Ok.put {s : RS} (h : s.Ok) {r w : Nat} {e : Bool} {lb lr : Int} (h1 : r ≤ w) (h2 : w ≤ s.buf.length) (h3 : -1 ≤ lb) (h4 : lb ≤ 255) (h5 : -1 ≤ lr) (h6 : lr ≤ 4) : ({ s with r := r, w := w, eof := e, lb := lb, lr := lr } : RS).Ok :=
  ⟨h1, h2, h.lo, h.hi, h3, h4, h5, h6⟩

/-- the reader's struct alone has turned -/
theorem RdrAt.turned {w w' : World} {E : Nat → Addr} {L : RL} {s s' : RS} (h : RdrAt w E L s) (hk : Keep (· = L.R) w w') (hb : Blk w' L.R 112 (rdCells E L s')) (e1 : s'.buf = s.buf) (e2 : s'.src = s.src) (ok : s'.Ok) : RdrAt w' E L s' := by
  have hk' : Keep (rdX L) w w' := hk.mono (fun k e => .inl e)
  refine h.upd hb ?_ ?_ ok hk'
  · rw [e1]; exact h.buf.keep hk (Ne.symm h.neRB)
  · rw [e2]; exact h.src.keep hk (Ne.symm h.neS) (Ne.symm h.neP) h.size (fun k e => by rw [e]; exact h.bR)
theorem keepR (w : World) (R i : Nat) (u : Value) : Keep (· = R) w (w.setCell ⟨R, i, none⟩ u) := (Keep.refl (· = R) w).setCell (p := ⟨R, i, none⟩) (.inl rfl) _
/-- nothing, one, two, three fields have been stored -/
theorem RdGave.st0 {w wq : World} {E : Nat → Addr} {L : RL} {s : RS} {v : Value} {e : Ending} (hr : RdrAt wq E L s) (hk : Keep (rdX L) w wq) (he : e = .returned v) : RdGave E L v s w e wq := ⟨he, hr, hk⟩
theorem RdGave.st1 {w wq : World} {E : Nat → Addr} {L : RL} {s s' : RS} {v u1 : Value} {e : Ending} {i1 : Nat} (hr : RdrAt wq E L s) (hk : Keep (rdX L) w wq) (he : e = .returned v) (hc : rdCells E L s' = (rdCells E L s).setIfInBounds i1 u1) (e1 : s'.buf = s.buf) (e2 : s'.src = s.src) (ok : s'.Ok) :
    RdGave E L v s' w e (wq.setCell ⟨L.R, i1, none⟩ u1) := by
  refine ⟨he, hr.turned (keepR _ _ _ _) ?_ e1 e2 ok, hk.trans ((keepR _ _ _ _).mono (fun k e => .inl e))⟩
  rw [hc]; exact hr.blk.set_ i1 u1
theorem RdGave.st2 {w wq : World} {E : Nat → Addr} {L : RL} {s s' : RS} {v u1 u2 : Value} {e : Ending} {i1 i2 : Nat} (hr : RdrAt wq E L s) (hk : Keep (rdX L) w wq) (he : e = .returned v) (hc : rdCells E L s' = ((rdCells E L s).setIfInBounds i1 u1).setIfInBounds i2 u2) (e1 : s'.buf = s.buf) (e2 : s'.src = s.src) (ok : s'.Ok) :
    RdGave E L v s' w e ((wq.setCell ⟨L.R, i1, none⟩ u1).setCell ⟨L.R, i2, none⟩ u2) := by
  refine ⟨he, hr.turned ((keepR _ _ _ _).trans (keepR _ _ _ _)) ?_ e1 e2 ok, hk.trans (((keepR _ _ _ _).trans (keepR _ _ _ _)).mono (fun k e => .inl e))⟩
  rw [hc]; exact (hr.blk.set_ i1 u1).set_ i2 u2
theorem RdGave.st3 {w wq : World} {E : Nat → Addr} {L : RL} {s s' : RS} {v u1 u2 u3 : Value} {e : Ending} {i1 i2 i3 : Nat} (hr : RdrAt wq E L s) (hk : Keep (rdX L) w wq) (he : e = .returned v) (hc : rdCells E L s' = (((rdCells E L s).setIfInBounds i1 u1).setIfInBounds i2 u2).setIfInBounds i3 u3) (e1 : s'.buf = s.buf) (e2 : s'.src = s.src) (ok : s'.Ok) :
    RdGave E L v s' w e (((wq.setCell ⟨L.R, i1, none⟩ u1).setCell ⟨L.R, i2, none⟩ u2).setCell ⟨L.R, i3, none⟩ u3) := by
  refine ⟨he, hr.turned (((keepR _ _ _ _).trans (keepR _ _ _ _)).trans (keepR _ _ _ _)) ?_ e1 e2 ok, hk.trans ((((keepR _ _ _ _).trans (keepR _ _ _ _)).trans (keepR _ _ _ _)).mono (fun k e => .inl e))⟩
  rw [hc]; exact ((hr.blk.set_ i1 u1).set_ i2 u2).set_ i3 u3

/-- at the head of a loop that fills -/
def FillRel (E : Nat → Addr) (L : RL) (c : RS → Bool) (s0 : RS) (w : World) (k : Nat) (wr : World) : Prop :=
  ∃ s', RdrAt wr E L s' ∧ Keep (rdX L) w wr ∧ fillW c s' = fillW c s0 ∧ k = meas s'

set_option maxRecDepth 100000 in
set_option maxHeartbeats 1000000 in
theorem readByte48 (E : Nat → Addr) (L : RL) (s : RS) (w : World) (h : RdrAt w E L s) :
    Calls Tryd.prog 48 #[.pointer (some ⟨L.R, 0, none⟩)] w (RdGave E L (.tuple #[bv (readByteM s).2.1, errV E (readByteM s).2.2]) (readByteM s).1 w) := by
  have c6 := h.cells.2.2.2.2.2.2
  have g6 := h.free 6
  have h1 := h.store (s' := { s with lr := -1 }) 6 (.int .i64 (-1)) rfl rfl rfl ⟨h.ok.rw, h.ok.wn, h.ok.lo, h.ok.hi, h.ok.lb0, h.ok.lb1, by simp, by simp⟩
  have H1 := Lib.hid h1; clear h1 h
  obtain ⟨x, hx⟩ : ∃ x, x = readByteM s := ⟨_, rfl⟩
  rw [← hx]
  have Hx := Lib.hid hx; clear hx
  go_enter Tryd.func48, Tryd.ntmps48
  go_wp2_with fail
  go_loopg [] (meas { s with lr := -1 }) (fun k wr => FillRel E L cByte { s with lr := -1 } w k wr)
  case atStart => exact ⟨_, H1.out.1, H1.out.2, rfl, rfl⟩
  case round =>
    obtain ⟨s', hr, hk, hf, hm⟩ := hrel
    obtain ⟨c0, c1, c2, c3, c4, c5, c6⟩ := hr.cells
    have H := Lib.hid (And.intro hr (And.intro hk (And.intro hf hm))); clear hk hf hm
    by_cases hrw : s'.r = s'.w
    · have hb : ((s'.r : Int) == (s'.w : Int)) = true := by simp [hrw]
      have hnf : s'.w - s'.r < s'.buf.length := by have := hr.ok.lo; omega
      clear hr
      rcases he : s'.eof with _ | _
      · have c4' : wr.cell? ⟨L.R, 4, none⟩ = some .nilIface := by rw [c4, he]; rfl
        have Hc := Lib.hid (show cByte s' = true by simp [cByte, hrw, he])
        have Hrw := Lib.hid (And.intro hrw he); clear c4 hrw he
        go_wp2_with fail
        go_quiet (fail)
        go_wp2_with fail
        refine (fill60 E L s' _ (H.out.1.drewN nq) hnf).mono ?_
        rintro e w1 ⟨rfl, hr1, hk1⟩
        have H2 := Lib.hid (And.intro hr1 hk1); clear hr1 hk1
        go_wp2_with fail
        go_roundg (meas (fillM s'))
        case measure => have := meas_fill s' H.out.1.ok Hrw.out.2 hnf; have := H.out.2.2.2; omega
        case rel => exact ⟨fillM s', H2.out.1, (H.out.2.1.drewN nq).trans H2.out.2, by rw [← H.out.2.2.1, fillW_more cByte_asks s' H.out.1.ok Hc.out], rfl⟩
      · have c4' : wr.cell? ⟨L.R, 4, none⟩ = some (sent (E 0)) := by rw [c4, he]; rfl
        have Hrw := Lib.hid (And.intro hrw he); clear c4 hrw he
        go_wp2_with fail
        go_quiet (fail)
        go_wp2_with fail
        refine (readErr61 E L s' _ (H.out.1.drewN nq)).mono ?_
        rintro e w1 ⟨rfl, hr1, hk1⟩
        have H2 := Lib.hid (And.intro hr1 hk1); clear hr1 hk1
        go_wp2_with fail
        go_ret2
        have hx : x = ({ s' with eof := false }, 0, 1) := by
          rw [Hx.out]
          show readByteE (fillW cByte _) = _
          rw [← H.out.2.2.1, fillW_done s' (by simp [cByte, Hrw.out.2])]
          simp [readByteE, Hrw.out.1, Hrw.out.2]
        rw [hx]
        exact ⟨by rw [Hrw.out.2]; rfl, H2.out.1, (H.out.2.1.drewN nq).trans H2.out.2⟩
    · have hb : ((s'.r : Int) == (s'.w : Int)) = false := by simp; omega
      have hrlt : s'.r < s'.w := by have := hr.ok.rw; omega
      have hrl : (s'.r : Int) < (s'.buf.length : Int) := by have := hr.ok.wn; omega
      have hr255 : s'.r < 255 := by have := hr.ok.wn; have := hr.ok.hi; omega
      have cb := hr.byte s'.r (by have := hr.ok.wn; omega)
      have g2 := hr.free 2
      have g5 := hr.free 5
      obtain ⟨b, hbt⟩ : ∃ b, b = byteAt s' s'.r := ⟨_, rfl⟩
      rw [← hbt] at cb
      unfold bv at cb
      have hb1 := b.toNat_lt
      have Hrw := Lib.hid (And.intro hrw hbt); clear hrw hbt
      clear hr
      go_wp2_with fail
      go_quiet (fail)
      go_wp2_with fail
      go_quiet (fail)
      go_wp2_with fail
      go_ret2
      have hx : x = ({ s' with r := s'.r + 1, lb := (b.toNat : Int) }, b, 0) := by
        rw [Hx.out]
        show readByteE (fillW cByte _) = _
        rw [← H.out.2.2.1, fillW_done s' (by simp [cByte, Hrw.out.1])]
        simp [readByteE, Hrw.out.1, ← Hrw.out.2]
      rw [hx]
      exact RdGave.st2 (H.out.1.drewN _) (H.out.2.1.drewN _) rfl rfl rfl rfl (H.out.1.ok.put (by omega) H.out.1.ok.wn (by omega) (by omega) H.out.1.ok.lr0 H.out.1.ok.lr1)
end Go.Proofs.YtancmlapnhccdaaDoor

/- bufio.Reader: UnreadByte, UnreadRune, Buffered. -/
namespace Go.Proofs.YtancmlapnhccdaaDoor
open Go.RowKit

set_option maxHeartbeats 1000000 in
theorem buffered67 (E : Nat → Addr) (L : RL) (s : RS) (w : World) (h : RdrAt w E L s) :
    Calls Tryd.prog 67 #[.pointer (some ⟨L.R, 0, none⟩)] w fun e w' => e = .returned (.int .i64 ((s.w - s.r : Nat) : Int)) ∧ ∃ m, w' = w.drewN m := by
  obtain ⟨c0, c1, c2, c3, c4, c5, c6⟩ := h.cells
  have hrw := h.ok.rw
  have hwn := h.ok.wn
  have hhi := h.ok.hi
  have hw : IntKind.i64.wrap ((s.w : Int) - (s.r : Int)) = ((s.w - s.r : Nat) : Int) := by
    rw [IntWalk.i64_in _ (by omega)]; omega
  clear h c4
  go_enter Tryd.func67, Tryd.ntmps67
  go_wp2_with fail
  go_quiet (fail)
  go_wp2_with fail
  go_ret
  refine ⟨?_, nq, rfl⟩
  first
    | rfl
    | (refine congrArg (fun x => Ending.returned (Value.int .i64 x)) ?_
       first | exact hw | (rw [IntWalk.wrap64_in _ (by omega)]; omega))

set_option maxHeartbeats 1000000 in
theorem unreadRune51 (E : Nat → Addr) (L : RL) (s : RS) (w : World) (h : RdrAt w E L s) :
    Calls Tryd.prog 51 #[.pointer (some ⟨L.R, 0, none⟩)] w (RdGave E L (errV E (unreadRuneM s).2) (unreadRuneM s).1 w) := by
  obtain ⟨c0, c1, c2, c3, c4, c5, c6⟩ := h.cells
  have e2 := h.env.at_ 2 (by omega)
  have g2 := h.free 2
  have g5 := h.free 5
  have g6 := h.free 6
  have hrw := h.ok.rw
  have hwn := h.ok.wn
  have hhi := h.ok.hi
  have hlr0 := h.ok.lr0
  have hlr1 := h.ok.lr1
  by_cases hA : s.lr < 0
  · have hd : decide (s.lr < 0) = true := by simpa using hA
    have hx : unreadRuneM s = (s, 3) := by simp [unreadRuneM, hA]
    rw [hx]
    have H := Lib.hid h; clear h hx c4
    go_enter Tryd.func51, Tryd.ntmps51
    go_wp2_with fail
    go_quiet (fail)
    go_wp2_with fail
    go_ret
    exact RdGave.st0 (H.out.drewN _) ((Keep.refl _ _).drewN _) rfl
  · have hd : decide (s.lr < 0) = false := by simpa using hA
    by_cases hB : (s.r : Int) < s.lr
    · have hd2 : decide ((s.r : Int) < s.lr) = true := by simpa using hB
      have hx : unreadRuneM s = (s, 3) := by simp [unreadRuneM, hB]
      rw [hx]
      have H := Lib.hid h; clear h hx c4
      go_enter Tryd.func51, Tryd.ntmps51
      go_wp2_with fail
      go_quiet (fail)
      go_wp2_with fail
      go_ret
      exact RdGave.st0 (H.out.drewN _) ((Keep.refl _ _).drewN _) rfl
    · have hd2 : decide ((s.r : Int) < s.lr) = false := by simpa using hB
      have hx : unreadRuneM s = ({ s with r := s.r - s.lr.toNat, lb := -1, lr := -1 }, 0) := by simp [unreadRuneM, hA, hB]
      rw [hx]
      have hw : IntKind.i64.wrap ((s.r : Int) - s.lr) = (s.r : Int) - s.lr := IntWalk.i64_in _ (by omega)
      have H := Lib.hid h; clear h hx c4
      go_enter Tryd.func51, Tryd.ntmps51
      go_wp2_with fail
      go_quiet (fail)
      go_wp2_with fail
      go_region
      go_wp2_with fail
      go_ret
      exact RdGave.st3 (H.out.drewN _) ((Keep.refl _ _).drewN _) rfl (by simp only [rdCells]; rw [show ((s.r - s.lr.toNat : Nat) : Int) = (s.r : Int) - s.lr by omega]; rfl) rfl rfl (H.out.ok.put (by omega) hwn (by omega) (by omega) (by omega) (by omega))

theorem splice_one (l : List UInt8) (i : Nat) (b : UInt8) (h : i < l.length) : splice l i [b] = l.set i b := by
  rw [List.set_eq_take_append_cons_drop, if_pos h]
  simp [splice]
theorem bvs_set (l : List UInt8) (i : Nat) (b : UInt8) : bvs (l.set i b) = (bvs l).set i (bv b) := by simp [bvs, List.map_set]
/-- a byte is put back, and the fields are stored -/
theorem RdGave.unb {w : World} {E : Nat → Addr} {L : RL} {s s' : RS} {v u1 u2 u3 : Value} {e : Ending} {i j : Nat} {b : UInt8} (h : RdrAt w E L s) (hi : i < s.buf.length) (he : e = .returned v)
    (hc : rdCells E L s' = (((rdCells E L s).setIfInBounds j u1).setIfInBounds 5 u2).setIfInBounds 6 u3) (hb : s'.buf = splice s.buf i [b]) (hs : s'.src = s.src) (ok : s'.Ok) :
    RdGave E L v s' w e ((((w.setCell ⟨L.R, j, none⟩ u1).setCell ⟨L.RB, i, none⟩ (.int .u8 (b.toNat : Int))).setCell ⟨L.R, 5, none⟩ u2).setCell ⟨L.R, 6, none⟩ u3).drew := by
  have k1 : Keep (fun k => k = L.R ∨ k = L.RB) w ((((w.setCell ⟨L.R, j, none⟩ u1).setCell ⟨L.RB, i, none⟩ (.int .u8 (b.toNat : Int))).setCell ⟨L.R, 5, none⟩ u2).setCell ⟨L.R, 6, none⟩ u3).drew :=
    (((((Keep.refl _ w).setCell (p := ⟨L.R, j, none⟩) (.inl (.inl rfl)) _).setCell (p := ⟨L.RB, i, none⟩) (.inl (.inr rfl)) _).setCell (p := ⟨L.R, 5, none⟩) (.inl (.inl rfl)) _).setCell (p := ⟨L.R, 6, none⟩) (.inl (.inl rfl)) _).drew
  have hk : Keep (rdX L) w _ := k1.mono (fun k e => e.elim .inl (fun e => .inr (.inl e)))
  refine ⟨he, h.upd ?_ ?_ ?_ ok hk, hk⟩
  · rw [hc]
    exact ((((h.blk.set_ j u1).far (p := ⟨L.RB, i, none⟩) h.neRB _).set_ 5 u2).set_ 6 u3).drew
  · rw [hb, splice_one _ _ _ hi, bvs_set]
    have := ((h.buf.far (p := ⟨L.R, j, none⟩) (Ne.symm h.neRB) u1).set_ i (bv b))
    have h2 : Blk ((w.setCell ⟨L.R, j, none⟩ u1).setCell ⟨L.RB, i, none⟩ (bv b)) L.RB 5 ((bvs s.buf).set i (bv b)).toArray := by simpa using this
    exact ((h2.far (p := ⟨L.R, 5, none⟩) (Ne.symm h.neRB) u2).far (p := ⟨L.R, 6, none⟩) (Ne.symm h.neRB) u3).drew
  · rw [hs]
    refine h.src.keep k1 ?_ ?_ h.size ?_
    · rintro (e | e)
      · exact h.neS e.symm
      · exact h.neBS e.symm
    · rintro (e | e)
      · exact h.neP e.symm
      · exact h.neBP e.symm
    · rintro k (rfl | rfl)
      · exact h.bR
      · exact h.bRB
theorem splice_len1 (l : List UInt8) (i : Nat) (b : UInt8) (h : i < l.length) : (splice l i [b]).length = l.length := by rw [splice_one _ _ _ h]; simp

set_option maxHeartbeats 1000000 in
theorem unreadByte50 (E : Nat → Addr) (L : RL) (s : RS) (w : World) (h : RdrAt w E L s) :
    Calls Tryd.prog 50 #[.pointer (some ⟨L.R, 0, none⟩)] w (RdGave E L (errV E (unreadByteM s).2) (unreadByteM s).1 w) := by
  obtain ⟨c0, c1, c2, c3, c4, c5, c6⟩ := h.cells
  have e1 := h.env.at_ 1 (by omega)
  have g2 := h.free 2
  have g3 := h.free 3
  have g5 := h.free 5
  have g6 := h.free 6
  have hrw := h.ok.rw
  have hwn := h.ok.wn
  have hhi := h.ok.hi
  have hlb0 := h.ok.lb0
  have hlb1 := h.ok.lb1
  by_cases hA : s.lb < 0
  · have hd : decide (s.lb < 0) = true := by simpa using hA
    have hx : unreadByteM s = (s, 2) := by simp [unreadByteM, hA]
    rw [hx]
    have H := Lib.hid h; clear h hx c4
    go_enter Tryd.func50, Tryd.ntmps50
    go_wp2_with fail
    go_ret
    exact RdGave.st0 H.out (Keep.refl _ _) rfl
  · have hd : decide (s.lb < 0) = false := by simpa using hA
    obtain ⟨b, hb⟩ : ∃ b : UInt8, s.lb = (b.toNat : Int) := ⟨UInt8.ofNat s.lb.toNat, by rw [UInt8.toNat_ofNat']; omega⟩
    have hbo : UInt8.ofNat s.lb.toNat = b := by rw [hb, Int.toNat_natCast]; exact UInt8.ofNat_toNat
    have hb1 := b.toNat_lt
    rw [hb] at c5 hd
    by_cases hB : 0 < s.r
    · have hne : ((s.r : Int) == 0) = false := by simp; omega
      have hpos : (0 : Int) < (s.r : Int) := by omega
      have hpos1 : (1 : Int) ≤ (s.r : Int) := by omega
      have hlt : (s.r : Int) - 1 < (s.buf.length : Int) := by omega
      have cb := h.byte (s.r - 1) (by omega)
      have gb := h.buf.frozen (s.r - 1)
      have n1 : ¬ L.R = L.RB := h.neRB
      have n2 : ¬ L.RB = L.R := Ne.symm h.neRB
      have H := Lib.hid h; clear h c4
      have Hb := Lib.hid (And.intro hb hbo); clear hb hbo
      go_enter Tryd.func50, Tryd.ntmps50
      go_wp2_with fail
      go_region
      go_wp2_with fail
      go_ret
      have hx : unreadByteM s = ({ s with r := s.r - 1, buf := splice s.buf (s.r - 1) [b], lb := -1, lr := -1 }, 0) := by
        have : ¬ (s.lb < 0 ∨ (s.r = 0 ∧ 0 < s.w)) := by rw [Hb.out.1]; omega
        simp only [unreadByteM, if_neg this, if_pos hB, Hb.out.2]
      rw [hx]
      have hl := splice_len1 s.buf (s.r - 1) b (by omega)
      exact RdGave.unb H.out (by omega) rfl (by simp only [rdCells, hl]; rw [show ((s.r - 1 : Nat) : Int) = (s.r : Int) - 1 by omega]; rfl) rfl rfl ⟨by show s.r - 1 ≤ s.w; omega, by rw [hl]; exact hwn, by rw [hl]; exact H.out.ok.lo, by rw [hl]; exact hhi, by simp, by simp, by simp, by simp⟩
    · have hr0 : s.r = 0 := by omega
      by_cases hC : 0 < s.w
      · have hpos : (0 : Int) < (s.w : Int) := by omega
        have hx : unreadByteM s = (s, 2) := by simp [unreadByteM, hr0, hC]
        rw [hx]
        rw [hr0] at c2
        have H := Lib.hid h; clear h hx c4 hb hbo hr0
        go_enter Tryd.func50, Tryd.ntmps50
        go_wp2_with fail
        go_ret
        exact RdGave.st0 H.out (Keep.refl _ _) rfl
      · have hw0 : s.w = 0 := by omega
        have hlt : (0 : Int) < (s.buf.length : Int) := by have := h.ok.lo; omega
        have cb := h.byte 0 (by omega)
        have gb := h.buf.frozen 0
        have n1 : ¬ L.R = L.RB := h.neRB
        have n2 : ¬ L.RB = L.R := Ne.symm h.neRB
        rw [hr0] at c2
        rw [hw0] at c3
        have H := Lib.hid h; clear h c4
        have Hb := Lib.hid (And.intro hb (And.intro hbo (And.intro hr0 hw0))); clear hb hbo hr0 hw0 hB hC hrw hwn
        go_enter Tryd.func50, Tryd.ntmps50
        go_wp2_with fail
        go_region
        go_wp2_with fail
        go_ret
        have hx : unreadByteM s = ({ s with w := 1, buf := splice s.buf 0 [b], lb := -1, lr := -1 }, 0) := by
          have : ¬ (s.lb < 0 ∨ (s.r = 0 ∧ 0 < s.w)) := by rw [Hb.out.1, Hb.out.2.2.2]; omega
          have h2 : ¬ 0 < s.r := by rw [Hb.out.2.2.1]; omega
          simp only [unreadByteM, if_neg this, if_neg h2, Hb.out.2.1]
        rw [hx]
        have hl := splice_len1 s.buf 0 b (by omega)
        exact RdGave.unb H.out (by omega) rfl (by simp only [rdCells, hl]; rfl) rfl rfl ⟨by show s.r ≤ 1; rw [Hb.out.2.2.1]; omega, by rw [hl]; show 1 ≤ _; omega, by rw [hl]; exact H.out.ok.lo, by rw [hl]; exact hhi, by simp, by simp, by simp, by simp⟩
end Go.Proofs.YtancmlapnhccdaaDoor

/- bufio.Reader: Peek. -/
namespace Go.Proofs.YtancmlapnhccdaaDoor
open Go.RowKit

/-- what Peek gives: some bytes that lie in memory -/
def Peeked (E : Nat → Addr) (L : RL) (x : RS × List UInt8 × Nat) (w : World) (e : Ending) (w' : World) : Prop :=
  ∃ A c, e = .returned (.tuple #[.slice A x.2.1.length c, errV E x.2.2]) ∧ Reads w' w'.heap.size 1 A x.2.1.length (bvs x.2.1) ∧ RdrAt w' E L x.1 ∧ Keep (rdX L) w w' ∧ (x.2.2 ≠ 4 → ∃ ad, A = some ad ∧ ad.block < w'.heap.size)

theorem wrapS (a b : Nat) (h : b ≤ a) (ha : a ≤ 1000000) : IntKind.i64.wrap ((a : Int) - (b : Int)) = ((a - b : Nat) : Int) := by
  rw [IntWalk.i64_in _ (by omega)]; omega
theorem wrapA (a b : Nat) (ha : a + b ≤ 1000000) : IntKind.i64.wrap ((a : Int) + (b : Int)) = ((a + b : Nat) : Int) := by
  rw [IntWalk.i64_in _ (by omega)]; omega

/-- a part of the buffer that has not been read, as a slice -/
theorem RdrAt.part {w : World} {E : Nat → Addr} {L : RL} {s : RS} (h : RdrAt w E L s) (k : Nat) (hk : k ≤ s.w - s.r) : Reads w w.heap.size 1 (cutA L.RB s.buf.length s.r) ((avail s).take k).length (bvs ((avail s).take k)) := by
  have hal := avail_length s h.ok
  have hwn := h.ok.wn
  have hrw := h.ok.rw
  have hl : ((avail s).take k).length = k := by rw [List.length_take]; omega
  rw [hl]
  have := Reads.of_blk (A := cutA L.RB s.buf.length s.r) h.buf s.r k (by rw [bvs_length]; omega) (fun h0 => cutA_pos (by omega))
  rw [← bvs_drop, ← bvs_take] at this
  have e : (avail s).take k = (s.buf.drop s.r).take k := by
    unfold avail; rw [List.take_take, Nat.min_eq_left hk]
  rw [e]
  exact this.more (by have := h.buf.lt; omega)

/-- Peek gives k bytes of the buffer -/
theorem Peeked.mk {E : Nat → Addr} {L : RL} {t : RS} {x : RS × List UInt8 × Nat} {w wq : World} {k c err : Nat} {v : Value} {e : Ending} (h : RdrAt wq E L t) (hk : Keep (rdX L) w wq) (hkm : k ≤ t.w - t.r) (hx : x = (t, (avail t).take k, err)) (hv : v = errV E err)
    (he : e = .returned (.tuple #[.slice (cutA L.RB t.buf.length t.r) k c, v])) : Peeked E L x w e wq := by
  have hl : ((avail t).take k).length = k := by rw [List.length_take, avail_length t h.ok]; omega
  subst hx hv he
  have := h.part k hkm
  rw [hl] at this
  refine ⟨cutA L.RB t.buf.length t.r, c, ?_, ?_, h, hk, fun _ => by unfold cutA; split <;> exact ⟨_, rfl, h.buf.lt⟩⟩
  · simp only [hl]
  · simp only [hl]; exact this

set_option maxRecDepth 100000 in
set_option maxHeartbeats 2000000 in
theorem peek_neg (E : Nat → Addr) (L : RL) (s : RS) (n : Int) (hn : n < 0) (w : World) (h : RdrAt w E L s) :
    Calls Tryd.prog 52 #[.pointer (some ⟨L.R, 0, none⟩), .int .i64 n] w (Peeked E L (peekM n s) w) := by
  have e3 := h.env.at_ 3 (by omega)
  have hd : decide (n < 0) = true := by simpa using hn
  have hx : peekM n s = (s, [], 4) := by simp [peekM, hn]
  rw [hx]
  have H := Lib.hid h; clear h hx
  go_enter Tryd.func52, Tryd.ntmps52
  go_wp2_with fail
  go_quiet (fail)
  go_wp2_with fail
  go_ret2
  exact ⟨_, _, rfl, Reads.none_, H.out.drewN _, (Keep.refl _ _).drewN _, fun h => absurd rfl h⟩

set_option maxRecDepth 100000 in
set_option maxHeartbeats 2000000 in
theorem peek_some (E : Nat → Addr) (L : RL) (s : RS) (n : Nat) (w : World) (h : RdrAt w E L s) :
    Calls Tryd.prog 52 #[.pointer (some ⟨L.R, 0, none⟩), .int .i64 (n : Int)] w (Peeked E L (peekE n (fillW (cPeek n) (noBack s))) w) := by
  have c5 := h.cells.2.2.2.2.2.1
  have c6 := h.cells.2.2.2.2.2.2
  have g5 := h.free 5
  have g6 := h.free 6
  have h1 := RdGave.st2 (v := .nilIface) (s' := noBack s) h (Keep.refl _ _) rfl (i1 := 5) (u1 := .int .i64 (-1)) (i2 := 6) (u2 := .int .i64 (-1)) rfl rfl rfl (noBack_ok h.ok)
  have H1 := Lib.hid h1.2; clear h1 h
  obtain ⟨x, hx⟩ : ∃ x, x = peekE n (fillW (cPeek n) (noBack s)) := ⟨_, rfl⟩
  rw [← hx]
  have Hx := Lib.hid hx; clear hx
  go_enter Tryd.func52, Tryd.ntmps52
  go_wp2_with fail
  go_loopg [] (meas (noBack s)) (fun k wr => FillRel E L (cPeek n) (noBack s) w k wr)
  case atStart => exact ⟨_, H1.out.1, H1.out.2, rfl, rfl⟩
  case round =>
    obtain ⟨s', hr, hk, hf, hm⟩ := hrel
    obtain ⟨c0, c1, c2, c3, c4, c5, c6⟩ := hr.cells
    have H := Lib.hid (And.intro hr (And.intro hk (And.intro hf hm))); clear hk hf hm
    have hrw := hr.ok.rw
    have hwn := hr.ok.wn
    have hhi := hr.ok.hi
    have e4 := hr.env.at_ 4 (by omega)
    have hws := wrapS s'.w s'.r hrw (by omega)
    have hslA := slice_lh L.RB s'.buf.length s'.r s'.w hrw hwn
    obtain ⟨m, hm⟩ : ∃ m, m = s'.w - s'.r := ⟨_, rfl⟩
    have Hm := Lib.hid hm
    rw [← hm] at hws hslA
    have hmr : m ≤ 255 := by omega
    clear hr
    by_cases hc : cPeek n s' = true
    · have hc' := hc
      simp only [cPeek, Bool.and_eq_true, decide_eq_true_eq, Bool.not_eq_true'] at hc'
      obtain ⟨⟨q1, q2⟩, q3⟩ := hc'
      have c4' : wr.cell? ⟨L.R, 4, none⟩ = some .nilIface := by rw [c4, q3]; rfl
      rw [← hm] at q1 q2
      have d1 : decide (m < n) = true := by simpa using q1
      have d2 : decide (m < s'.buf.length) = true := by simpa using q2
      have Hc := Lib.hid (And.intro hc q3); clear hc q3 hm c4
      go_wp2_with fail
      go_quiet (fail)
      go_wp2_with fail
      refine (fill60 E L s' _ (H.out.1.drewN nq) (by rw [← Hm.out]; exact q2)).mono ?_
      rintro e w1 ⟨rfl, hr1, hk1⟩
      have H2 := Lib.hid (And.intro hr1 hk1); clear hr1 hk1
      go_wp2_with fail
      go_roundg (meas (fillM s'))
      case measure => have := meas_fill s' H.out.1.ok Hc.out.2 (by rw [← Hm.out]; exact q2); have := H.out.2.2.2; omega
      case rel => exact ⟨fillM s', H2.out.1, (H.out.2.1.drewN nq).trans H2.out.2, by rw [← H.out.2.2.1, fillW_more (cPeek_asks n) s' H.out.1.ok Hc.out.1], rfl⟩
    · have hc0 : cPeek n s' = false := by simpa using hc
      have hxs : x = peekE n s' := by rw [Hx.out, ← H.out.2.2.1, fillW_done s' hc0]
      by_cases q1 : m < n
      · have d1 : decide (m < n) = true := by simpa using q1
        by_cases q2 : m < s'.buf.length
        · have d2 : decide (m < s'.buf.length) = true := by simpa using q2
          have q3 : s'.eof = true := by rw [hm] at q1 q2; simpa [cPeek, q1, q2] using hc0
          have c4' : wr.cell? ⟨L.R, 4, none⟩ = some (sent (E 0)) := by rw [c4, q3]; rfl
          have Hc := Lib.hid (And.intro hxs q3); clear hc hc0 hxs q3 hm c4
          by_cases q4 : s'.buf.length < n
          · have d4 : decide (s'.buf.length < n) = true := by simpa using q4
            go_wp2_with fail
            go_quiet (fail)
            go_wp2_with fail
            go_quiet (fail)
            go_wp2_with fail
            go_ret2
            refine Peeked.mk ((H.out.1.drewN _).drewN _) ((H.out.2.1.drewN _).drewN _) (Nat.le_of_eq Hm.out) (err := 5) ?_ rfl rfl
            rw [Hc.out.1, peekE, if_pos q4, List.take_of_length_le (by rw [avail_length s' H.out.1.ok, Hm.out]; exact Nat.le_refl _)]
          · have d4 : decide (s'.buf.length < n) = false := by simpa using q4
            have hwa := wrapA s'.r m (by omega)
            rw [show s'.r + m = s'.w by have := Hm.out; omega] at hwa
            go_wp2_with fail
            go_quiet (fail)
            go_wp2_with fail
            go_quiet (fail)
            go_wp2_with fail
            refine (readErr61 E L s' _ (H.out.1.drewN _)).mono ?_
            rintro e w1 ⟨rfl, hr1, hk1⟩
            have hee : eofV E s'.eof = sent (E 0) := by rw [Hc.out.2]; rfl
            rw [hee]
            obtain ⟨c0, c1, c2, c3, c4, c5, c6⟩ := hr1.cells
            have H2 := Lib.hid (And.intro hr1 hk1); clear hr1 hk1 hee
            go_wp2_with fail
            go_quiet (fail)
            go_wp2_with fail
            go_ret2
            refine Peeked.mk (t := { s' with eof := false }) (H2.out.1.drewN _) (((H.out.2.1.drewN _).trans H2.out.2).drewN _) (Nat.le_of_eq Hm.out) (err := 1) ?_ rfl rfl
            have hq : s'.w - s'.r < n := by rw [← Hm.out]; exact q1
            rw [Hc.out.1, peekE, if_neg q4, if_pos hq, Hc.out.2, List.take_of_length_le]
            · rfl
            · show (avail s').length ≤ m
              rw [avail_length s' H.out.1.ok, Hm.out]; exact Nat.le_refl _
        · have d2 : decide (m < s'.buf.length) = false := by simpa using q2
          have q4 : s'.buf.length < n := by omega
          have d4 : decide (s'.buf.length < n) = true := by simpa using q4
          have Hc := Lib.hid hxs; clear hc hc0 hxs hm c4
          go_wp2_with fail
          go_quiet (fail)
          go_wp2_with fail
          go_quiet (fail)
          go_wp2_with fail
          go_ret2
          refine Peeked.mk ((H.out.1.drewN _).drewN _) ((H.out.2.1.drewN _).drewN _) (Nat.le_of_eq Hm.out) (err := 5) ?_ rfl rfl
          rw [Hc.out, peekE, if_pos q4, List.take_of_length_le (by rw [avail_length s' H.out.1.ok, Hm.out]; exact Nat.le_refl _)]
      · have d1 : decide (m < n) = false := by simpa using q1
        have q4 : ¬ s'.buf.length < n := by omega
        have d4 : decide (s'.buf.length < n) = false := by simpa using q4
        obtain ⟨hi, hhi2⟩ : ∃ hi, hi = s'.r + n := ⟨_, rfl⟩
        have hwa := wrapA s'.r n (by omega)
        rw [← hhi2] at hwa
        have hslB := slice_lh L.RB s'.buf.length s'.r hi (by omega) (by omega)
        rw [show hi - s'.r = n by omega] at hslB
        have Hc := Lib.hid hxs; clear hc hc0 hxs hm hhi2 c4
        go_wp2_with fail
        go_quiet (fail)
        go_wp2_with fail
        go_quiet (fail)
        go_wp2_with fail
        go_quiet (fail)
        go_wp2_with fail
        go_ret2
        refine Peeked.mk ((H.out.1.drewN _).drewN _) ((H.out.2.1.drewN _).drewN _) (by have := Hm.out; omega) (err := 0) ?_ rfl rfl
        have hq : ¬ s'.w - s'.r < n := by rw [← Hm.out]; exact q1
        rw [Hc.out, peekE, if_neg q4, if_neg hq]
theorem peek52 (E : Nat → Addr) (L : RL) (s : RS) (n : Int) (w : World) (h : RdrAt w E L s) :
    Calls Tryd.prog 52 #[.pointer (some ⟨L.R, 0, none⟩), .int .i64 n] w (Peeked E L (peekM n s) w) := by
  by_cases hn : n < 0
  · exact peek_neg E L s n hn w h
  · obtain ⟨k, rfl⟩ := Int.eq_ofNat_of_zero_le (show 0 ≤ n by omega)
    have hx : peekM (k : Int) s = peekE k (fillW (cPeek k) (noBack s)) := by simp only [peekM, if_neg hn, Int.toNat_natCast]
    rw [hx]
    exact peek_some E L s k w h
end Go.Proofs.YtancmlapnhccdaaDoor

/- bufio.Reader: Discard. -/
namespace Go.Proofs.YtancmlapnhccdaaDoor
open Go.RowKit

theorem discF_step (k n : Nat) (s t : RS) (ht : t = if s.w - s.r = 0 then fillM s else s) (m : Nat) (hm : m = min (t.w - t.r) n) :
    discF (k + 1) n s = if n - m = 0 then ({ t with r := t.r + m }, 0, 0) else if t.eof then ({ t with r := t.r + m, eof := false }, n - m, 1) else discF k (n - m) { t with r := t.r + m } := by
  simp only [discF]
  rw [← ht, ← hm]
theorem disc_t {s t : RS} (hs : s.Ok) (he : s.eof = true → s.src.flatten = []) (ht : t = if s.w - s.r = 0 then fillM s else s) : left t = left s ∧ (t.eof = true → t.src.flatten = []) ∧ (t.w - t.r = 0 → t.eof = true) ∧ t.Ok := by
  have hlo := hs.lo
  by_cases h0 : s.w - s.r = 0
  · rw [if_pos h0] at ht
    have hf := FillsTo.fill hs (by omega)
    have hf2 := fillM_filled s hs (by omega)
    subst ht
    refine ⟨hf.left, hf.eof he, fun e => ?_, hf.ok⟩
    rcases hf2.more with ⟨_, a, _, _⟩ | ⟨_, _, b⟩
    · exact a
    · rw [avail_length _ hs, avail_length _ hf.ok] at b; omega
  · rw [if_neg h0] at ht
    subst ht
    exact ⟨rfl, he, fun e => absurd e h0, hs⟩

/-- at the head of Discard's loop -/
def DiscRel (E : Nat → Addr) (L : RL) (n : Nat) (x : RS × Nat × Nat) (w : World) (k : Nat) (t6 : Value) (wr : World) : Prop :=
  ∃ s' rem, t6 = .int .i64 ((rem : Nat) : Int) ∧ RdrAt wr E L s' ∧ Keep (rdX L) w wr ∧ discF k rem s' = x ∧ (left s').length < k ∧ 0 < rem ∧ rem ≤ n ∧ (s'.eof = true → s'.src.flatten = [])

set_option maxHeartbeats 1000000 in
theorem discard_neg (E : Nat → Addr) (L : RL) (s : RS) (n : Int) (hn : n < 0) (w : World) (h : RdrAt w E L s) :
    Calls Tryd.prog 53 #[.pointer (some ⟨L.R, 0, none⟩), .int .i64 n] w (RdGave E L (.tuple #[.int .i64 0, errV E 4]) s w) := by
  have e3 := h.env.at_ 3 (by omega)
  have hd : decide (n < 0) = true := by simpa using hn
  have H := Lib.hid h; clear h
  go_enter Tryd.func53, Tryd.ntmps53
  go_wp2_with fail
  go_quiet (fail)
  go_wp2_with fail
  go_ret2
  exact RdGave.st0 (H.out.drewN _) ((Keep.refl _ _).drewN _) rfl
set_option maxHeartbeats 1000000 in
theorem discard_zero (E : Nat → Addr) (L : RL) (s : RS) (w : World) (h : RdrAt w E L s) :
    Calls Tryd.prog 53 #[.pointer (some ⟨L.R, 0, none⟩), .int .i64 0] w (RdGave E L (.tuple #[.int .i64 0, errV E 0]) s w) := by
  have H := Lib.hid h; clear h
  go_enter Tryd.func53, Tryd.ntmps53
  go_wp2_with fail
  go_ret2
  exact RdGave.st0 H.out (Keep.refl _ _) rfl

set_option maxRecDepth 100000 in
set_option maxHeartbeats 4000000 in
theorem discard_some (E : Nat → Addr) (L : RL) (s : RS) (n : Nat) (hn : 0 < n) (hmax : (n : Int) ≤ 9223372036854775807) (w : World) (h : RdrAt w E L s) (heof : s.eof = true → s.src.flatten = []) (x : RS × Nat × Nat) (hx : x = discF (dmeas (noBack s)) n (noBack s)) :
    Calls Tryd.prog 53 #[.pointer (some ⟨L.R, 0, none⟩), .int .i64 (n : Int)] w (RdGave E L (.tuple #[.int .i64 ((n - x.2.1 : Nat) : Int), errV E x.2.2]) x.1 w) := by
  have c5 := h.cells.2.2.2.2.2.1
  have c6 := h.cells.2.2.2.2.2.2
  have g5 := h.free 5
  have g6 := h.free 6
  have h1 := RdGave.st2 (v := .nilIface) (s' := noBack s) h (Keep.refl _ _) rfl (i1 := 5) (u1 := .int .i64 (-1)) (i2 := 6) (u2 := .int .i64 (-1)) rfl rfl rfl (noBack_ok h.ok)
  have H1 := Lib.hid (And.intro h1.2 heof); clear h1 h heof
  have Hx := Lib.hid hx; clear hx
  have hz : ((n : Int) == 0) = false := by simp; omega
  have hz2 : decide ((n : Int) < 0) = false := by simp
  go_enter Tryd.func53, Tryd.ntmps53
  go_wp2_with fail
  go_loopg [6] (dmeas (noBack s)) (fun k t6 wr => DiscRel E L n x w k t6 wr)
  case atStart => exact ⟨_, n, rfl, H1.out.1.1, H1.out.1.2, Hx.out.symm, by unfold dmeas; omega, hn, Nat.le_refl _, H1.out.2⟩
  case round =>
    obtain ⟨s', rem, rfl, hr, hk, hf, hlt, hrem, hle, he⟩ := hrel
    obtain ⟨gk', rfl⟩ : ∃ k', gk = k' + 1 := ⟨gk - 1, by omega⟩
    have H := Lib.hid (And.intro hr (And.intro hk (And.intro hf (And.intro hlt he)))); clear hk hf hlt he
    clear hr
    go_wp2_with fail
    refine (buffered67 E L s' wr H.out.1).mono ?_
    rintro e w1 ⟨rfl, m1, rfl⟩
    go_upto_if 23 with (fail)
    go_cut [7] (fun t7 wx => ∃ t, t = (if s'.w - s'.r = 0 then fillM s' else s') ∧ t7 = .int .i64 ((t.w - t.r : Nat) : Int) ∧ RdrAt wx E L t ∧ Keep (rdX L) w wx)
    case first =>
      by_cases h0 : s'.w - s'.r = 0
      · have hb : (((s'.w - s'.r : Nat) : Int) == 0) = true := by simp [h0]
        have H0 := Lib.hid h0; clear h0
        go_wp2_with fail
        refine (fill60 E L s' _ (H.out.1.drewN m1) (by have := H.out.1.ok.lo; have := H0.out; omega)).mono ?_
        rintro e w2 ⟨rfl, hr2, hk2⟩
        have H2 := Lib.hid (And.intro hr2 hk2); clear hr2 hk2
        go_wp2_with fail
        refine (buffered67 E L (fillM s') w2 H2.out.1).mono ?_
        rintro e w3 ⟨rfl, m2, rfl⟩
        go_wp2_with fail
        go_meet
        exact ⟨fillM s', by rw [if_pos H0.out], rfl, H2.out.1.drewN _, ((H.out.2.1.drewN _).trans H2.out.2).drewN _⟩
      · have hb : (((s'.w - s'.r : Nat) : Int) == 0) = false := by simp; omega
        have H0 := Lib.hid h0; clear h0
        go_wp2_with fail
        go_meet
        exact ⟨s', by rw [if_neg H0.out], rfl, H.out.1.drewN _, H.out.2.1.drewN _⟩
    case rest =>
      obtain ⟨t, ht, rfl, hrt, hkt⟩ := hcut
      have Ht := Lib.hid (And.intro ht (And.intro hrt hkt)); clear ht hkt
      obtain ⟨c0, c1, c2, c3, c4, c5, c6⟩ := hrt.cells
      have hrw := hrt.ok.rw
      have hwn := hrt.ok.wn
      have hhi := hrt.ok.hi
      have g2 := hrt.free 2
      clear hrt
      obtain ⟨a, ha⟩ : ∃ a, a = t.w - t.r := ⟨_, rfl⟩
      rw [← ha]
      have har : a + t.r ≤ 255 := by omega
      have Ha := Lib.hid ha; clear ha
      have hremI : (rem : Int) ≤ 9223372036854775807 := by omega
      by_cases hgt : rem < a
      · have d1 : decide (rem < a) = true := by simpa using hgt
        go_wp2_with fail
        go_ret2
        have hx : x = ({ t with r := t.r + rem }, 0, 0) := by
          rw [← H.out.2.2.1, discF_step gk' rem s' t Ht.out.1 rem (by have := Ha.out; omega), if_pos (by omega)]
        rw [hx]
        exact RdGave.st1 Ht.out.2.1 Ht.out.2.2 rfl (by simp only [rdCells]; rfl) rfl rfl (Ht.out.2.1.ok.put (by have := Ha.out; omega) hwn Ht.out.2.1.ok.lb0 Ht.out.2.1.ok.lb1 Ht.out.2.1.ok.lr0 Ht.out.2.1.ok.lr1)
      · have d1 : decide (rem < a) = false := by simpa using hgt
        by_cases hz : rem = a
        · subst hz
          go_wp2_with fail
          go_ret2
          have hx : x = ({ t with r := t.r + rem }, 0, 0) := by
            rw [← H.out.2.2.1, discF_step gk' rem s' t Ht.out.1 rem (by have := Ha.out; omega), if_pos (by omega)]
          rw [hx]
          exact RdGave.st1 Ht.out.2.1 Ht.out.2.2 rfl (by simp only [rdCells]; rfl) rfl rfl (Ht.out.2.1.ok.put (by have := Ha.out; omega) hwn Ht.out.2.1.ok.lb0 Ht.out.2.1.ok.lb1 Ht.out.2.1.ok.lr0 Ht.out.2.1.ok.lr1)
        · have hstep := discF_step gk' rem s' t Ht.out.1 a (by have := Ha.out; omega)
          rw [if_neg (by omega)] at hstep
          obtain ⟨dl, de, dz, dok⟩ := disc_t H.out.1.ok H.out.2.2.2.2 Ht.out.1
          have hsub : ((rem : Int) - (a : Int) == 0) = false := by simp; omega
          have hst := RdGave.st1 (v := .nilIface) (s' := { t with r := t.r + a }) Ht.out.2.1 Ht.out.2.2 rfl (i1 := 2) (u1 := .int .i64 ((t.r : Int) + (a : Int))) (by simp only [rdCells]; rfl) rfl rfl (Ht.out.2.1.ok.put (by have := Ha.out; omega) hwn Ht.out.2.1.ok.lb0 Ht.out.2.1.ok.lb1 Ht.out.2.1.ok.lr0 Ht.out.2.1.ok.lr1)
          have Hst := Lib.hid hst.2; clear hst
          rcases hte : t.eof with _ | _
          · have c4' : wc.cell? ⟨L.R, 4, none⟩ = some .nilIface := by rw [c4, hte]; rfl
            have Hs := Lib.hid (And.intro hstep (And.intro dl (And.intro de (And.intro dz (And.intro dok hte))))); clear hstep dl de dz dok hte c4
            go_wp2_with fail
            go_roundg gk'
            case measure => omega
            case rel =>
              obtain ⟨hstep, dl, de, dz, dok, hte⟩ := Hs.out
              rw [if_neg (by rw [hte]; simp)] at hstep
              have hla := left_adv dok a (by have := Ha.out; omega) t.lb t.lr t.eof
              have hpos : 0 < a := by
                rcases Nat.eq_zero_or_pos a with e | e
                · have := dz (by rw [← Ha.out]; exact e); rw [hte] at this; cases this
                · exact e
              have hal := avail_length t dok
              refine ⟨{ t with r := t.r + a }, rem - a, by congr 1; omega, Hst.out.1, Hst.out.2, ?_, ?_, by omega, by omega, de⟩
              · rw [← hstep]; exact H.out.2.2.1
              · show (left ({ t with r := t.r + a, lb := t.lb, lr := t.lr, eof := t.eof } : RS)).length < gk'
                rw [hla, List.length_drop, dl]
                have h1 := H.out.2.2.2.1
                have h2 : a ≤ (left s').length := by rw [← dl, left_split, List.length_append, hal, ← Ha.out]; omega
                omega
          · have c4' : wc.cell? ⟨L.R, 4, none⟩ = some (sent (E 0)) := by rw [c4, hte]; rfl
            have Hs := Lib.hid (And.intro hstep hte); clear hstep dl de dz dok hte c4
            go_wp2_with fail
            refine (readErr61 E L { t with r := t.r + a } _ Hst.out.1).mono ?_
            rintro e w4 ⟨rfl, hr4, hk4⟩
            have H4 := Lib.hid (And.intro hr4 hk4); clear hr4 hk4
            go_wp2_with fail
            go_ret2
            obtain ⟨hstep, hte⟩ := Hs.out
            have hx : x = ({ t with r := t.r + a, eof := false }, rem - a, 1) := by
              rw [← H.out.2.2.1, hstep, hte, if_pos rfl]
            rw [hx]
            refine RdGave.st0 H4.out.1 (Hst.out.2.trans H4.out.2) ?_
            rw [hte]
            exact congrArg (fun z => Ending.returned (Value.tuple #[Value.int .i64 z, sent (E 0)])) (show (n : Int) - ((rem : Int) - (a : Int)) = ((n - (rem - a) : Nat) : Int) by omega)

theorem discard53 (E : Nat → Addr) (L : RL) (s : RS) (n : Int) (hmax : n ≤ 9223372036854775807) (w : World) (h : RdrAt w E L s) (heof : s.eof = true → s.src.flatten = []) :
    Calls Tryd.prog 53 #[.pointer (some ⟨L.R, 0, none⟩), .int .i64 n] w (RdGave E L (.tuple #[.int .i64 (((discardM n s).2.1 : Nat) : Int), errV E (discardM n s).2.2]) (discardM n s).1 w) := by
  by_cases hn : n < 0
  · simp only [discardM, if_pos hn]
    exact discard_neg E L s n hn w h
  · by_cases hz : n = 0
    · subst hz
      simp only [discardM]
      exact discard_zero E L s w h
    · obtain ⟨k, rfl⟩ := Int.eq_ofNat_of_zero_le (show 0 ≤ n by omega)
      simp only [discardM, if_neg hn, if_neg hz, Int.toNat_natCast]
      exact discard_some E L s k (by omega) hmax w h heof _ rfl
end Go.Proofs.YtancmlapnhccdaaDoor
