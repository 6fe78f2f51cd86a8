/- bufio.Reader: ReadRune. -/
import Derived.Test.YtancmlapnhccdaaDoorFul
import Derived.Test.YtancmlapnhccdaaDoorRdr
import Derived.Test.YtancmlapnhccdaaDoorWbs
import Derived.Test.YtancmlapnhccdaaDoorRmm
import Derived.Test.YtancmlapnhccdaaDoorIwt
import Derived.Lib.QuietBelow
namespace Go.Proofs.YtancmlapnhccdaaDoor
open Go.RowKit Go.Sort

theorem tabs_keep {X : Nat → Prop} {w w' : World} (h : Lib.Utf8Tabs 9 10 w) (hk : Keep X w w') (hX : ∀ k, X k → 12 ≤ k) (h12 : 12 ≤ w.heap.size) : Lib.Utf8Tabs 9 10 w' := by
  refine ⟨fun c hc => ?_, fun i hi => ⟨?_, ?_⟩⟩
  · exact (hk.cell (p := ⟨9, c, none⟩) (by show 9 < _; omega) (fun hx => by have := hX 9 hx; omega)).trans (h.1 c hc)
  · exact (hk.cell (p := ⟨10, 2 * i, none⟩) (by show 10 < _; omega) (fun hx => by have := hX 10 hx; omega)).trans (h.2 i hi).1
  · exact (hk.cell (p := ⟨10, 2 * i + 1, none⟩) (by show 10 < _; omega) (fun hx => by have := hX 10 hx; omega)).trans (h.2 i hi).2

theorem strOf_get (p : List UInt8) (i : Nat) : (strOf p).get! i = p.getD i 0 := by
  simp only [strOf, ByteArray.get!, List.getD]
  rw [getElem!_def]
  simp only [List.getElem?_toArray]
  cases p[i]? <;> rfl
theorem decodeGo_dec (p : List UInt8) (h : p ≠ []) : Lib.decodeGo (strOf p) = decM p := by
  have hs := strOf_size p
  have hp := List.length_pos_iff.2 h
  unfold Lib.decodeGo decM
  rw [if_neg (by omega), Lib.decode_at, hs, Nat.sub_zero, strOf_get, strOf_get, strOf_get, strOf_get]

theorem decode66 (g o c : Nat) (p : List UInt8) (hp : p ≠ []) (w : World) (hr : RowAt w g o p) (hT : Lib.Utf8Tabs 9 10 w) :
    Calls Tryd.prog 66 #[.slice (some ⟨g, o, none⟩) p.length c] w fun e w' => e = .returned (.tuple #[.int .i32 (((decM p).1 : Nat) : Int), .int .i64 (((decM p).2 : Nat) : Int)]) ∧ Below w.heap.size w w' := by
  have h := Any7.utf8_DecodeRune lays32 (strOf p) g o c w hT (fun j hj => by
    rw [strOf_size] at hj
    rw [strOf_get]
    exact row_cell hr j hj)
  rw [strOf_size, decodeGo_dec p hp] at h
  exact h

theorem RowAt.below {w w' : World} {g o : Nat} {p : List UInt8} (h : RowAt w g o p) (hb : Below w.heap.size w w') : RowAt w' g o p := fun j b hj => by
  have hc := h j b hj
  exact (hb.cell (p := ⟨g, o + j, none⟩) (World.block_lt_of_cell? w _ hc)).trans hc

/-- where the unread part of the buffer begins -/
def cutB (n k : Nat) : Nat := if n = k then 0 else k
theorem cutA_cutB (g n k : Nat) : cutA g n k = some ⟨g, cutB n k, none⟩ := by unfold cutA cutB; split <;> rfl
theorem RdrAt.rowAvail {w : World} {E : Nat → Addr} {L : RL} {s : RS} (h : RdrAt w E L s) : RowAt w L.RB (cutB s.buf.length s.r) (avail s) := by
  intro j b hj
  have hal := avail_length s h.ok
  have hjl : j < (avail s).length := (List.getElem?_eq_some_iff.1 hj).1
  have hwn := h.ok.wn
  unfold cutB
  rw [if_neg (by omega), h.buf.cell]
  simp only [avail, List.getElem?_take, List.getElem?_drop] at hj
  rw [if_pos (by omega)] at hj
  simp [bvs, hj]

def Rune49 (E : Nat → Addr) (L : RL) (x : RS × Nat × Nat × Nat) (w : World) (e : Ending) (w' : World) : Prop :=
  RdGave E L (.tuple #[.int .i32 ((x.2.1 : Nat) : Int), .int .i64 ((x.2.2.1 : Nat) : Int), errV E x.2.2.2]) x.1 w e w'

set_option maxRecDepth 100000 in
set_option maxHeartbeats 4000000 in
theorem readRune49 (E : Nat → Addr) (L : RL) (s : RS) (w : World) (h : RdrAt w E L s) (hT : Lib.Utf8Tabs 9 10 w) :
    Calls Tryd.prog 49 #[.pointer (some ⟨L.R, 0, none⟩)] w (Rune49 E L (readRuneM s) w) := by
  have hge := rdX_ge h
  have h12 : 12 ≤ L.B := h.env.five
  have H1 := Lib.hid (And.intro h (And.intro hT hge)); clear h hT hge
  obtain ⟨x, hx⟩ : ∃ x, x = readRuneM s := ⟨_, rfl⟩
  rw [← hx]
  have Hx := Lib.hid hx; clear hx
  go_enter Tryd.func49, Tryd.ntmps49
  go_wp2_with fail
  go_loopg [] (meas s) (fun k wr => FillRel E L cRune s w k wr)
  case atStart => exact ⟨_, H1.out.1, Keep.refl _ _, rfl, rfl⟩
  case round =>
    obtain ⟨s', hr, hk, hf, hm⟩ := hrel
    obtain ⟨c0, c1, c2, c3, c4, c5, c6⟩ := hr.cells
    have hT' : Lib.Utf8Tabs 9 10 wr := tabs_keep H1.out.2.1 hk (fun k hx => by have := H1.out.2.2 k hx; omega) (by have := H1.out.1.size; omega)
    have H := Lib.hid (And.intro hr (And.intro hk (And.intro hf (And.intro hm hT')))); clear hk hf hm hT'
    have hrw := hr.ok.rw
    have hwn := hr.ok.wn
    have hhi := hr.ok.hi
    have hal := avail_length s' hr.ok
    obtain ⟨q, hq⟩ : ∃ q, q = s'.r + 4 := ⟨_, rfl⟩
    have hwa : IntKind.i64.wrap ((s'.r : Int) + 4) = (q : Int) := by rw [IntWalk.i64_in _ (by omega)]; omega
    clear hr
    go_upto_region 1 with (fail)
    go_cut [55] (fun t55 wx => t55 = .bool (cRune s') ∧ Below wr.heap.size wr wx)
    case first =>
      by_cases ha : s'.w < s'.r + 4
      · have da : decide (s'.w < q) = true := by rw [hq]; simpa using ha
        have hsl := slice_lh L.RB s'.buf.length s'.r s'.w hrw hwn
        rw [cutA_cutB, ← hal] at hsl
        have k0 := cell_regrown c0
        have k2 := cell_regrown c2
        have k3 := cell_regrown c3
        have cF : ∀ d os, Calls Tryd.prog 65 #[.slice (some ⟨L.RB, cutB s'.buf.length s'.r, none⟩) (avail s').length (s'.buf.length - s'.r)] (grow (redrawn wr d) os) fun e w'' => e = .returned (.bool (fullM (avail s'))) ∧ ∃ p : Regrown, w'' = grow (redrawn wr p.d) p.os := fun d os =>
          Calls.regrown_of ((fullRune65 L.RB (cutB s'.buf.length s'.r) (s'.buf.length - s'.r) (avail s') _ (H.out.1.rowAvail.below (below_regrown wr d os)) (Utf8Tabs_below H.out.2.2.2.2 (below_regrown wr d os))).mono fun _ _ h => ⟨h.1, h.2⟩)
        have hws := wrapS s'.w s'.r hrw (by omega)
        rw [← hal] at hws
        obtain ⟨m, hm⟩ : ∃ m, m = (avail s').length := ⟨_, rfl⟩
        rw [← hm] at hws hsl cF
        have Hm := Lib.hid (And.intro hm (And.intro hal hq)); clear hm hal hq
        rcases hfl : fullM (avail s') with _ | _
        · rw [hfl] at cF
          rcases he : s'.eof with _ | _
          · have c4' : wr.cell? ⟨L.R, 4, none⟩ = some .nilIface := by rw [c4, he]; rfl
            have k4 := cell_regrown c4'
            by_cases hb : m < s'.buf.length
            · have db : decide (m < s'.buf.length) = true := by simpa using hb
              have Hc := Lib.hid (And.intro hfl he); clear hfl he
              have HF := Lib.hid cF; clear cF c4
              refine wp_region_quiet_below (by kernel_rfl) (by kernel_rfl) ?_
              repeat (first | go_big_quiet_step (exact HF.out _ _) | quiet_step (exact HF.out _ _))
              refine wpQuiet_nil ?_
              intro _ hw'
              obtain ⟨⟨dq, osq⟩, hw''⟩ := hw'
              subst hw''
              go_wp2_with fail
              go_meet
              have hb2 : s'.w - s'.r < s'.buf.length := by rw [← Hm.out.2.1, ← Hm.out.1]; exact hb
              exact ⟨congrArg Value.bool (by simp [cRune, ha, Hc.out.1, Hc.out.2, hb2]), below_regrown wr dq osq⟩
            · have db : decide (m < s'.buf.length) = false := by simpa using hb
              have Hc := Lib.hid (And.intro hfl he); clear hfl he
              have HF := Lib.hid cF; clear cF c4
              refine wp_region_quiet_below (by kernel_rfl) (by kernel_rfl) ?_
              repeat (first | go_big_quiet_step (exact HF.out _ _) | quiet_step (exact HF.out _ _))
              refine wpQuiet_nil ?_
              intro _ hw'
              obtain ⟨⟨dq, osq⟩, hw''⟩ := hw'
              subst hw''
              go_wp2_with fail
              go_meet
              have hb2 : ¬ s'.w - s'.r < s'.buf.length := by rw [← Hm.out.2.1, ← Hm.out.1]; exact hb
              exact ⟨congrArg Value.bool (by simp [cRune, hb2]), below_regrown wr dq osq⟩
          · have c4' : wr.cell? ⟨L.R, 4, none⟩ = some (sent (E 0)) := by rw [c4, he]; rfl
            have k4 := cell_regrown c4'
            have Hc := Lib.hid (And.intro hfl he); clear hfl he
            have HF := Lib.hid cF; clear cF c4
            refine wp_region_quiet_below (by kernel_rfl) (by kernel_rfl) ?_
            repeat (first | go_big_quiet_step (exact HF.out _ _) | quiet_step (exact HF.out _ _))
            refine wpQuiet_nil ?_
            intro _ hw'
            obtain ⟨⟨dq, osq⟩, hw''⟩ := hw'
            subst hw''
            go_wp2_with fail
            go_meet
            exact ⟨congrArg Value.bool (by simp [cRune, Hc.out.2]), below_regrown wr dq osq⟩
        · rw [hfl] at cF
          have Hc := Lib.hid hfl; clear hfl
          have HF := Lib.hid cF; clear cF c4
          refine wp_region_quiet_below (by kernel_rfl) (by kernel_rfl) ?_
          repeat (first | go_big_quiet_step (exact HF.out _ _) | quiet_step (exact HF.out _ _))
          refine wpQuiet_nil ?_
          intro _ hw'
          obtain ⟨⟨dq, osq⟩, hw''⟩ := hw'
          subst hw''
          go_wp2_with fail
          go_meet
          exact ⟨congrArg Value.bool (by simp [cRune, Hc.out]), below_regrown wr dq osq⟩
      · have da : decide (s'.w < q) = false := by rw [hq]; simpa using ha
        have Hm := Lib.hid (And.intro hal hq); clear hal hq c4
        go_quiet (fail)
        go_wp2_with fail
        go_meet
        exact ⟨congrArg Value.bool (by simp [cRune, ha]), below_drewN (Below.refl _ _) _⟩
    case rest =>
      obtain ⟨rfl, hbx⟩ := hcut
      have hr2 := H.out.1.keep (Keep.ofBelow hbx (fun _ => False)) (fun _ h => h.elim) (fun _ h => h.elim)
      have hT2 := Utf8Tabs_below H.out.2.2.2.2 hbx
      have hk2 := H.out.2.1.trans (Keep.ofBelow hbx (rdX L))
      clear c0 c1 c2 c3 c4 c5 c6
      obtain ⟨c0, c1, c2, c3, c4, c5, c6⟩ := hr2.cells
      have g2 := hr2.free 2
      have g5 := hr2.free 5
      have g6 := hr2.free 6
      have n1 : ¬ L.R = L.RB := hr2.neRB
      have n2 : ¬ L.RB = L.R := Ne.symm hr2.neRB
      have H2 := Lib.hid (And.intro hr2 (And.intro hT2 hk2)); clear hT2 hk2 hbx
      have Hal := Lib.hid (And.intro hal hq); clear hal hq
      rcases hc : cRune s' with _ | _
      · have hxs : x = readRuneE s' := by rw [Hx.out]; show readRuneE (fillW cRune s) = _; rw [← H.out.2.2.1, fillW_done s' hc]
        have hok3 : ({ s' with lr := -1 } : RS).Ok := hr2.ok.put hrw hwn hr2.ok.lb0 hr2.ok.lb1 (by omega) (by omega)
        have hs3 := RdGave.st1 (v := .nilIface) (e := .returned .nilIface) (s' := { s' with lr := -1 }) hr2 H2.out.2.2 rfl (i1 := 6) (u1 := .int .i64 (-1)) rfl rfl rfl hok3
        have hT3 : Lib.Utf8Tabs 9 10 (wc.setCell ⟨L.R, 6, none⟩ (.int .i64 (-1))) := tabs_keep H2.out.2.1 (keepR wc L.R 6 _) (fun k e => by have := hr2.bR; omega) (by have := hr2.size; omega)
        have H3 := Lib.hid (And.intro hs3.2.1 (And.intro hs3.2.2 (And.intro hT3 (And.intro hxs hc)))); clear hs3 hT3 hxs hc hok3 hr2
        go_wp2_with fail
        clear c0 c1 c2 c3 c4 c5 c6 g2 g5 g6
        generalize wc.setCell ⟨L.R, 6, none⟩ (.int .i64 (-1)) = w3 at *
        obtain ⟨c0, c1, c2, c3, c4, c5, c6⟩ := H3.out.1.cells
        have g2 := H3.out.1.free 2
        have g5 := H3.out.1.free 5
        have g6 := H3.out.1.free 6
        simp only at c0 c2 c3 c4 c5 c6
        by_cases hrw2 : s'.r = s'.w
        · have hb : ((s'.r : Int) == (s'.w : Int)) = true := by simp [hrw2]
          have Hrw := Lib.hid hrw2; clear hrw2
          go_quiet (fail)
          go_wp2_with fail
          refine (readErr61 E L { s' with lr := -1 } _ (H3.out.1.drewN _)).mono ?_
          rintro e w4 ⟨rfl, hr4, hk4⟩
          have H4 := Lib.hid (And.intro hr4 hk4); clear hr4 hk4
          go_wp2_with fail
          go_ret3
          have hx : x = ({ s' with lr := -1, eof := false }, 0, 0, if s'.eof then 1 else 0) := by rw [H3.out.2.2.2.1, readRuneE, if_pos Hrw.out]
          rw [hx]
          refine RdGave.st0 H4.out.1 ((H3.out.2.1.drewN _).trans H4.out.2) ?_
          show _ = Ending.returned (Value.tuple #[.int .i32 0, .int .i64 0, errV E (if s'.eof then 1 else 0)])
          rw [← eofV_err]
          rfl
        · have hb : ((s'.r : Int) == (s'.w : Int)) = false := by simp; omega
          have hne : avail s' ≠ [] := fun e => hrw2 ((avail_nil H.out.1.ok).1 e)
          have hal := Hal.out.1
          have hdl := dec_le hne
          have hdg := dec_ge (l := avail s')
          have hsl := slice_lh L.RB s'.buf.length s'.r s'.w hrw hwn
          rw [cutA_cutB, ← hal] at hsl
          go_quiet (fail)
          go_wp2_with fail
          have hr4 := H3.out.1.drewN nq
          have hk4 := H3.out.2.1.drewN nq
          have hT4 : Lib.Utf8Tabs 9 10 (w3.drewN nq) := tabs_keep H3.out.2.2.1 ((Keep.refl (fun _ => False) w3).drewN nq) (fun _ h => h.elim) (by have := H3.out.1.size; omega)
          clear c0 c1 c2 c3 c4 c5 c6 g2 g5 g6
          generalize w3.drewN nq = w4 at *
          obtain ⟨c0, c1, c2, c3, c4, c5, c6⟩ := hr4.cells
          simp only at c0 c2 c3
          have k0 := cell_regrown c0
          have k2 := cell_regrown c2
          have k3 := cell_regrown c3
          have hrow : RowAt w4 L.RB (cutB s'.buf.length s'.r) (avail s') := hr4.rowAvail
          have cF : ∀ d os, Calls Tryd.prog 66 #[.slice (some ⟨L.RB, cutB s'.buf.length s'.r, none⟩) (avail s').length (s'.buf.length - s'.r)] (grow (redrawn w4 d) os) fun e w'' => e = .returned (.tuple #[.int .i32 (((decM (avail s')).1 : Nat) : Int), .int .i64 (((decM (avail s')).2 : Nat) : Int)]) ∧ ∃ p : Regrown, w'' = grow (redrawn w4 p.d) p.os := fun d os =>
            Calls.regrown_of (decode66 L.RB (cutB s'.buf.length s'.r) (s'.buf.length - s'.r) (avail s') hne _ (hrow.below (below_regrown _ d os)) (Utf8Tabs_below hT4 (below_regrown _ d os)))
          have H4 := Lib.hid (And.intro hr4 hk4); clear hr4 hk4 hT4
          obtain ⟨m, hm⟩ : ∃ m, m = (avail s').length := ⟨_, rfl⟩
          obtain ⟨dc, hdc⟩ : ∃ dc, dc = (decM (avail s')).2 := ⟨_, rfl⟩
          obtain ⟨dr, hdr⟩ : ∃ dr, dr = (decM (avail s')).1 := ⟨_, rfl⟩
          rw [← hm] at hsl cF hal
          rw [← hdc, ← hdr] at cF
          rw [← hdc] at hdl hdg
          rw [← hm] at hdl
          have Hm := Lib.hid (And.intro hm (And.intro hdc (And.intro hdr (And.intro hne hrw2))))
          have hml : m ≤ s'.w - s'.r := by omega
          clear hm hdc hdr hne hrw2 hal
          have HF := Lib.hid cF; clear cF hrow
          have hdl1 := hdl.1
          have hdl2 := hdl.2
          clear hdl
          clear c1 c4 c5 c6
          refine wp_region_quiet_below (by kernel_rfl) (by kernel_rfl) ?_
          repeat (first | go_big_quiet_step (exact HF.out _ _) | quiet_step (exact HF.out _ _))
          refine wpQuiet_nil ?_
          intro _ hw'
          obtain ⟨⟨dq, osq⟩, hw''⟩ := hw'
          subst hw''
          have hbg := below_regrown w4 dq osq
          clear k0 k2 k3 HF
          generalize grow (redrawn w4 dq) osq = w5 at *
          have hr5 := H4.out.1.keep (Keep.ofBelow hbg (fun _ => False)) (fun _ h => h.elim) (fun _ h => h.elim)
          have hk5 : Keep (rdX L) w w5 := H4.out.2.trans (Keep.ofBelow hbg (rdX L))
          clear c0 c2 c3
          obtain ⟨c0, c1, c2, c3, c4, c5, c6⟩ := hr5.cells
          have g2 := hr5.free 2
          have g5 := hr5.free 5
          have g6 := hr5.free 6
          simp only at c0 c2 c3 c4 c5 c6
          obtain ⟨e1, he1⟩ : ∃ e1, dc = e1 + 1 := ⟨dc - 1, by omega⟩
          have cb := hr5.byte (s'.r + e1) (by show _ < s'.buf.length; omega)
          unfold bv at cb
          obtain ⟨b, hbb⟩ : ∃ b, b = byteAt ({ s' with lr := -1 } : RS) (s'.r + e1) := ⟨_, rfl⟩
          rw [← hbb] at cb
          have hb1 := b.toNat_lt
          subst he1
          have H5 := Lib.hid (And.intro hr5 (And.intro hk5 hbb)); clear hr5 hk5 hbb hbg
          have hs1 : s'.r ≤ 255 := by omega
          have hs2 : (s'.r : Int) + (e1 : Int) < (s'.buf.length : Int) := by omega
          have he4 : e1 ≤ 3 := by omega
          go_wp2_with fail
          have hok6 : ({ s' with lr := -1, r := s'.r + (e1 + 1) } : RS).Ok := H.out.1.ok.put (by omega) hwn H.out.1.ok.lb0 H.out.1.ok.lb1 (by omega) (by omega)
          have hs6 := RdGave.st1 (v := .nilIface) (e := .returned .nilIface) (s' := { s' with lr := -1, r := s'.r + (e1 + 1) }) H5.out.1 H5.out.2.1 rfl (i1 := 2) (u1 := .int .i64 ((s'.r : Int) + ((e1 : Int) + 1))) rfl rfl rfl hok6
          have H6 := Lib.hid (And.intro hs6.2 H5.out.2.2); clear hs6 hok6
          clear c0 c1 c2 c3 c4 c5 c6 g2 g5 g6 cb
          generalize w5.setCell ⟨L.R, 2, none⟩ (.int .i64 ((s'.r : Int) + ((e1 : Int) + 1))) = w6 at *
          obtain ⟨c0, c1, c2, c3, c4, c5, c6⟩ := H6.out.1.1.cells
          have g5 := H6.out.1.1.free 5
          have g6 := H6.out.1.1.free 6
          simp only at c0 c2 c3 c4 c5 c6
          obtain ⟨vv, hvv⟩ : ∃ vv, vv = s'.r + (e1 + 1) := ⟨_, rfl⟩
          obtain ⟨uu, huu⟩ : ∃ uu, uu = s'.r + e1 := ⟨_, rfl⟩
          rw [← hvv] at c2
          have hw8 : IntKind.i64.wrap ((vv : Int) - 1) = (uu : Int) := by rw [IntWalk.i64_in _ (by omega)]; omega
          have cb : w6.cell? ⟨L.RB, uu, none⟩ = some (.int .u8 (b.toNat : Int)) := by
            have := H6.out.1.1.byte uu (by show _ < s'.buf.length; omega)
            rw [this, H6.out.2, huu]; rfl
          have hul : (uu : Int) < (s'.buf.length : Int) := by omega
          have Hv := Lib.hid (And.intro hvv huu); clear hvv huu c1 c3 c4 hs2
          go_region
          go_wp2_with fail
          go_ret3
          have hx : x = ({ s' with r := s'.r + (e1 + 1), lb := (b.toNat : Int), lr := ((e1 + 1 : Nat) : Int) }, dr, e1 + 1, 0) := by
            have hd2 : (decM (avail s')).2 = e1 + 1 := Hm.out.2.1.symm
            have hd1 : (decM (avail s')).1 = dr := Hm.out.2.2.1.symm
            rw [H3.out.2.2.2.1]
            simp only [readRuneE, if_neg Hm.out.2.2.2.2, hd2, hd1]
            rw [H6.out.2, show s'.r + (e1 + 1) - 1 = s'.r + e1 by omega]
            rfl
          rw [hx]
          have hfin := RdGave.st2 (v := .tuple #[.int .i32 (dr : Int), .int .i64 ((e1 + 1 : Nat) : Int), .nilIface]) (e := .returned (.tuple #[.int .i32 (dr : Int), .int .i64 ((e1 + 1 : Nat) : Int), .nilIface])) (s' := { s' with r := s'.r + (e1 + 1), lb := (b.toNat : Int), lr := ((e1 + 1 : Nat) : Int) }) H6.out.1.1 H6.out.1.2 rfl (i1 := 5) (u1 := .int .i64 (b.toNat : Int)) (i2 := 6) (u2 := .int .i64 ((e1 : Int) + 1)) rfl rfl rfl (H.out.1.ok.put (by omega) hwn (by omega) (by omega) (by omega) (by omega))
          exact ⟨rfl, hfin.2.1.drew, hfin.2.2.drew⟩
      · have hask := cRune_asks s' hr2.ok hc
        have Hc := Lib.hid (And.intro hc hask); clear hc hask hr2
        go_wp2_with fail
        refine (fill60 E L s' _ H2.out.1 Hc.out.2.2).mono ?_
        rintro e w1 ⟨rfl, hr3, hk3⟩
        have H3 := Lib.hid (And.intro hr3 hk3); clear hr3 hk3
        go_wp2_with fail
        go_roundg (meas (fillM s'))
        case measure => have := meas_fill s' H.out.1.ok Hc.out.2.1 Hc.out.2.2; have := H.out.2.2.2.1; omega
        case rel => exact ⟨fillM s', H3.out.1, H2.out.2.2.trans H3.out.2, by rw [← H.out.2.2.1, fillW_more cRune_asks s' H.out.1.ok Hc.out.1], rfl⟩
end Go.Proofs.YtancmlapnhccdaaDoor
