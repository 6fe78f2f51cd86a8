/- bufio.Reader.WriteTo on a reader whose buffer is empty: all data go to the sink. -/
import Derived.Test.YtancmlapnhccdaaDoorWbuf
import Derived.Stop.Asserts
namespace Go.Proofs.YtancmlapnhccdaaDoor
open Go.RowKit

theorem assert_rd (S : Nat) (w : World) : (Instr.typeAssert (.iface 79 (.pointer (some ⟨S, 0, none⟩))) 110 114 true).run Tryd.prog w = .ok (.tuple #[.nilIface, .bool false]) w := run_typeAssert_lacksB Tryd.underlying114 (by kernel_rfl) (by kernel_rfl) _ _ w
theorem assert_wr (K : Nat) (w : World) : (Instr.typeAssert (.iface 61 (.pointer (some ⟨K, 0, none⟩))) 108 117 true).run Tryd.prog w = .ok (.tuple #[.nilIface, .bool false]) w := run_typeAssert_lacksB Tryd.underlying117 (by kernel_rfl) (by kernel_rfl) _ _ w

theorem Apart.next {w : World} {E : Nat → Addr} {L : RL} {s : RS} {K N : Nat} {v v' : Value} (h : Apart L K N v) (hr : RdrAt w E L s) (hv : ∀ k, v'.ownBlock = some k → v.ownBlock = some k ∨ w.heap.size ≤ k) : Apart L K N v' where
  k := h.k
  bK := h.bK
  bN := h.bN
  v := by
    intro k hk
    rcases hv k hk with e | e
    · exact h.v k e
    · have l1 := hr.blk.lt
      have l2 := hr.buf.lt
      obtain ⟨A, c, o, row, q1, q2, _⟩ := hr.src
      have l3 := q1.lt
      have l4 := q2.lt
      rintro (e | e | e | e) <;> omega

/-- the parts of a run that writes data into a sink -/
structure Going (w0 : World) (E : Nat → Addr) (L : RL) (K N : Nat) (v0 : Value) (got all : List UInt8) (s : RS) (v : Value) (now : List UInt8) (w : World) : Prop where
  rdr : RdrAt w E L s
  snk : SnkAt w K N v now
  apart : Apart L K N v
  keep : Keep (wbX L K v0) w0 w
  row : ∀ k, v.ownBlock = some k → v0.ownBlock = some k ∨ w0.heap.size ≤ k
  all : now ++ left s = got ++ all
  size : N ≤ w.heap.size

theorem Going.drewN {w0 : World} {E : Nat → Addr} {L : RL} {K N : Nat} {v0 : Value} {got all : List UInt8} {s : RS} {v : Value} {now : List UInt8} {w : World} (h : Going w0 E L K N v0 got all s v now w) (n : Nat) : Going w0 E L K N v0 got all s v now (w.drewN n) where
  rdr := h.rdr.drewN n
  snk := h.snk.keep ((Keep.refl (fun _ => False) w).drewN n) (fun x => x) (fun _ _ x => x)
  apart := h.apart
  keep := h.keep.drewN n
  row := h.row
  all := h.all
  size := h.size
theorem Going.room {w0 : World} {E : Nat → Addr} {L : RL} {K N : Nat} {v0 : Value} {got all : List UInt8} {s : RS} {v : Value} {now : List UInt8} {w : World} (h : Going w0 E L K N v0 got all s v now w) (hr : Room (got.length + all.length + 255)) : Room (now.length + s.w) ∧ now.length ≤ got.length + all.length := by
  have e := congrArg List.length h.all
  simp at e
  have := h.rdr.ok.wn
  have := h.rdr.ok.hi
  exact ⟨hr.mono (by omega), by omega⟩
/-- one more buffer has been written, and the next one is there -/
theorem Going.step {w0 : World} {E : Nat → Addr} {L : RL} {K N : Nat} {v0 : Value} {got all : List UInt8} {s : RS} {v v' : Value} {now : List UInt8} {w w1 w2 : World} (h : Going w0 E L K N v0 got all s v now w)
    (hs : SnkAt w1 K N v' (now ++ avail s)) (hv : ∀ k, v'.ownBlock = some k → v.ownBlock = some k ∨ w.heap.size ≤ k) (hk : Keep (wbX L K v) w w1) (h2 : RdrAt w2 E L (fillM { s with r := s.w })) (hk2 : Keep (rdX L) w1 w2)
    (hok : ({ s with r := s.w } : RS).Ok) : Going w0 E L K N v0 got all (fillM { s with r := s.w }) v' (now ++ avail s) w2 where
  rdr := h2
  snk := by
    have ha := h.apart.next h.rdr hv
    exact hs.keep hk2 ha.k ha.v
  apart := h.apart.next h.rdr hv
  keep := by
    refine (h.keep.then hk ?_).trans (hk2.mono (fun k hk => .inl hk))
    rintro k (hx | hx | hx)
    · exact .inl (.inl hx)
    · exact .inl (.inr (.inl hx))
    · rcases h.row k hx with e | e
      · exact .inl (.inr (.inr e))
      · exact .inr e
  row := by
    intro k hk'
    rcases hv k hk' with e | e
    · exact h.row k e
    · exact .inr (Nat.le_trans h.keep.size e)
  all := by
    have hf := fillM_filled { s with r := s.w } hok (by have := h.rdr.ok.lo; show s.w - s.w < s.buf.length; omega)
    rw [hf.left]
    have e0 : avail { s with r := s.w } = [] := by simp [avail]
    have e1 : left { s with r := s.w } = s.src.flatten := by simp [left, e0]
    rw [e1, List.append_assoc]
    exact h.all
  size := Nat.le_trans (Nat.le_trans h.size hk.size) hk2.size

def WroteAll (K N : Nat) (L : RL) (v0 : Value) (got all : List UInt8) (w0 : World) (e : Ending) (w' : World) : Prop :=
  e = .returned (.tuple #[.int .i64 (all.length : Nat), .nilIface]) ∧ SnkNext K N v0 (got ++ all) w0 w' ∧ Keep (wbX L K v0) w0 w'

/-- what holds at the head of WriteTo's loop -/
def WtoRel (w0 : World) (E : Nat → Addr) (L : RL) (K N : Nat) (v0 : Value) (got all : List UInt8) (k : Nat) (t4 : Value) (w : World) : Prop :=
  ∃ s v now, t4 = .int .i64 ((now.length - got.length : Nat) : Int) ∧ Going w0 E L K N v0 got all s v now w ∧ (s.r < s.w ∨ (s.eof = true ∧ s.src.flatten = [])) ∧ got.length ≤ now.length ∧ k = (left s).length

theorem fill_head (s : RS) (h : s.Ok) (hnf : s.w - s.r < s.buf.length) : (fillM s).r < (fillM s).w ∨ ((fillM s).eof = true ∧ (fillM s).src.flatten = []) := by
  have hf := fillM_filled s h hnf
  have hok := fillM_ok s h
  rcases hf.more with ⟨_, a, b, _⟩ | ⟨_, _, c⟩
  · exact .inr ⟨a, by rw [b]; rfl⟩
  · rw [avail_length _ hok] at c
    exact .inl (by omega)

set_option maxRecDepth 100000 in
set_option maxHeartbeats 2000000 in
theorem writeTo34 (E : Nat → Addr) (L : RL) (s : RS) (K N : Nat) (v : Value) (got : List UInt8) (w : World) (h : RdrAt w E L s) (hs : SnkAt w K N v got) (ha : Apart L K N v) (hN : N ≤ w.heap.size) (hr : s.r = s.w) (hroom : Room (got.length + s.src.flatten.length + 255)) :
    Calls Tryd.prog 34 #[.pointer (some ⟨L.R, 0, none⟩), .iface 61 (.pointer (some ⟨K, 0, none⟩))] w (WroteAll K N L v got s.src.flatten w) := by
  have c5 : w.cell? ⟨L.R, 5, none⟩ = some (.int .i64 s.lb) := h.blk.cell 5
  have c6 : w.cell? ⟨L.R, 6, none⟩ = some (.int .i64 s.lr) := h.blk.cell 6
  have g5 := h.free 5
  have g6 := h.free 6
  have c2 : w.cell? ⟨L.R, 2, none⟩ = some (.int .i64 (s.r : Nat)) := h.blk.cell 2
  have c3 : w.cell? ⟨L.R, 3, none⟩ = some (.int .i64 (s.w : Nat)) := h.blk.cell 3
  have c1 : w.cell? ⟨L.R, 1, none⟩ = some (.iface 79 (.pointer (some ⟨L.S, 0, none⟩))) := h.blk.cell 1
  have c0 : w.cell? ⟨L.R, 0, none⟩ = some (.slice (some ⟨L.RB, 0, none⟩) s.buf.length s.buf.length) := h.blk.cell 0
  have hnl : decide (s.r < s.w) = false := by simp; omega
  have ta1 := fun w => assert_rd L.S w
  have ta2 := fun w => assert_wr K w
  have hok1 : ({ s with lb := -1 } : RS).Ok := ⟨h.ok.rw, h.ok.wn, h.ok.lo, h.ok.hi, by simp, by simp, h.ok.lr0, h.ok.lr1⟩
  have hok2 : ({ s with lb := -1, lr := -1 } : RS).Ok := ⟨h.ok.rw, h.ok.wn, h.ok.lo, h.ok.hi, by simp, by simp, by simp, by simp⟩
  have h1 := h.store (s' := { s with lb := -1 }) 5 (.int .i64 (-1)) rfl rfl rfl hok1
  have h2 := h1.1.store (s' := { s with lb := -1, lr := -1 }) 6 (.int .i64 (-1)) rfl rfl rfl hok2
  have hk2 := h1.2.trans h2.2
  have H2 := Lib.hid (And.intro h2.1 hk2); clear h1 h2 hk2 hok1 hok2
  have Hr := Lib.hid hr; clear hr
  have H := Lib.hid (And.intro hs ha); clear hs ha
  clear h
  go_enter Tryd.func34, Tryd.ntmps34
  go_wp2_with fail
  go_quiet (fail)
  have h3 := H2.out.1.drewN nq
  have hk3 := H2.out.2.drewN nq
  clear c0 c1 c2 c3 c5 c6 g5 g6 H2
  generalize ((w.setCell { block := L.R, off := 5 } (Value.int IntKind.i64 (-1))).setCell { block := L.R, off := 6 } (Value.int IntKind.i64 (-1))).drewN nq = w3 at *
  obtain ⟨c0, c1, c2, c3, c4, c5, c6⟩ := h3.cells
  have hok3 := h3.ok
  have hlo : 16 ≤ s.buf.length := hok3.lo
  obtain ⟨s1, hs1⟩ : ∃ s1 : RS, s1 = { s with lb := -1, lr := -1 } := ⟨_, rfl⟩
  have e1 : s1.buf = s.buf := by rw [hs1]
  have e2 : s1.r = s.r := by rw [hs1]
  have e3 : s1.w = s.w := by rw [hs1]
  have e4 : s1.src = s.src := by rw [hs1]
  rw [← hs1] at h3 hok3
  rw [← e1] at c0
  rw [← e2] at c2
  rw [← e3] at c3
  have hnf : s1.w - s1.r < s1.buf.length := by rw [e1, e2, e3]; have := Hr.out; omega
  have hlt : decide ((s1.w - s1.r : Nat) < s1.buf.length) = true := by simpa using hnf
  have hw1 : IntKind.i64.wrap ((s1.w : Int) - (s1.r : Int)) = ((s1.w - s1.r : Nat) : Int) := by
    have := hok3.rw; have := hok3.wn; have := hok3.hi
    rw [IntWalk.i64_in _ (by omega)]; omega
  have hemp : avail s1 = [] := by simp [avail, e2, e3, Hr.out]
  have hall : left s1 = s.src.flatten := by simp [left, hemp, e4]
  have H3 := Lib.hid (And.intro h3 (And.intro hk3 (And.intro hall (And.intro hok3 hnf)))); clear h3 hk3 hall hok3 hnf hemp e1 e2 e3 e4 hs1 c4 c5 c6 hlo
  generalize s.src.flatten = all at *
  clear Hr hnl
  go_wp2_with fail
  go_quiet (fail)
  go_wp2_with fail
  refine (fill60 E L s1 _ (H3.out.1.drewN _) H3.out.2.2.2.2).mono ?_
  rintro e w4 ⟨rfl, h4, hk4⟩
  have hf := fillM_filled s1 H3.out.2.2.2.1 H3.out.2.2.2.2
  have hgo : Going w E L K N v got all (fillM s1) v got w4 := by
    have hkk : Keep (rdX L) w w4 := H3.out.2.1.trans ((Keep.refl _ _).drewN _ |>.trans hk4)
    refine ⟨h4, H.out.1.keep hkk H.out.2.k (fun k hk => H.out.2.v k hk), H.out.2, hkk.mono (fun k hk => .inl hk), fun k hk => .inl hk, ?_, Nat.le_trans hN hkk.size⟩
    rw [hf.left, H3.out.2.2.1]
  have HG := Lib.hid (And.intro hgo (fill_head s1 H3.out.2.2.2.1 H3.out.2.2.2.2)); clear h4 hk4 hf hgo H3 c0 c1 c2 c3 hlt hw1 hN
  have Hroom := Lib.hid hroom; clear hroom
  go_wp2_with fail
  go_loopg [4] (left (fillM s1)).length (fun k t4 wr => WtoRel w E L K N v got all k t4 wr)
  case atStart => exact ⟨fillM s1, v, got, by simp, HG.out.1, HG.out.2, Nat.le_refl _, rfl⟩
  case round =>
    clear HG
    obtain ⟨s', v', now, ht4, hgo, hhead, hlen, hk⟩ := hrel
    subst ht4
    obtain ⟨c0, c1, c2, c3, c4, c5, c6⟩ := hgo.rdr.cells
    have hrw := hgo.rdr.ok.rw
    have hwn := hgo.rdr.ok.wn
    have hhi := hgo.rdr.ok.hi
    have Hk := Lib.hid hk; clear hk
    by_cases hlt : s'.r < s'.w
    · have hdl : decide (s'.r < s'.w) = true := by simpa using hlt
      have HG := Lib.hid hgo; clear hgo
      go_wp2_with fail
      go_quiet (fail)
      go_wp2_with fail
      have hg := HG.out.drewN nq
      have hro := hg.room Hroom.out
      refine (writeBuf59 E L s' K N v' now _ hg.rdr hg.snk hg.apart hg.size hro.1).mono ?_
      rintro e w5 ⟨rfl, h5, ⟨v5, hs5, hv5⟩, hk5⟩
      have hok5 := h5.ok
      have hnf5 : ({ s' with r := s'.w } : RS).w - ({ s' with r := s'.w } : RS).r < ({ s' with r := s'.w } : RS).buf.length := by have := hg.rdr.ok.lo; show s'.w - s'.w < s'.buf.length; omega
      have H5 := Lib.hid (And.intro hg (And.intro h5 (And.intro hs5 (And.intro hv5 (And.intro hk5 (And.intro hok5 hnf5)))))); clear hg h5 hs5 hv5 hk5 hok5 hnf5 hro HG
      clear c0 c1 c2 c3 c4 c5 c6
      go_wp2_with fail
      refine (fill60 E L { s' with r := s'.w } w5 H5.out.2.1 H5.out.2.2.2.2.2.2).mono ?_
      rintro e w6 ⟨rfl, h6, hk6⟩
      have hstep := H5.out.1.step H5.out.2.2.1 H5.out.2.2.2.1 H5.out.2.2.2.2.1 h6 hk6 H5.out.2.2.2.2.2.1
      have H6 := Lib.hid (And.intro hstep (And.intro (fill_head _ H5.out.2.2.2.2.2.1 H5.out.2.2.2.2.2.2) (fillM_filled _ H5.out.2.2.2.2.2.1 H5.out.2.2.2.2.2.2))); clear hstep h6 hk6
      go_wp2_with fail
      have hal := avail_length s' H5.out.1.rdr.ok
      have hro := H5.out.1.room Hroom.out
      have hlf : left ({ s' with r := s'.w } : RS) = s'.src.flatten := by simp [left, avail]
      go_roundg (left (fillM { s' with r := s'.w })).length
      case measure =>
        rw [H6.out.2.2.left, hlf, Hk.out]
        simp only [left, List.length_append, hal]
        omega
      case rel =>
        refine ⟨_, v5, now ++ avail s', ?_, H6.out.1, H6.out.2.1, by simp; omega, rfl⟩
        have hR := Hroom.out
        unfold Room at hR
        have e : ((now ++ avail s').length - got.length : Nat) = (now.length - got.length) + (s'.w - s'.r) := by rw [List.length_append, hal]; omega
        rw [e]
        first
          | rfl
          | (refine congrArg (Value.int .i64) ?_
             rw [IntWalk.wrap64_in _ (by omega)]
             omega)
    · have hrest : s'.eof = true ∧ s'.src.flatten = [] := by
        rcases hhead with h | h
        · exact absurd h hlt
        · exact h
      have hdl : decide (s'.r < s'.w) = false := by simpa using hlt
      have c7 : wr.cell? ⟨0, 0, none⟩ = some (sent (E 0)) := hgo.rdr.env.at_ 0 (by omega)
      have q := fun w => eql_same (E 0) w
      have g4 := hgo.rdr.free 4
      have c4' : wr.cell? ⟨L.R, 4, none⟩ = some (sent (E 0)) := by rw [c4, hrest.1]; rfl
      clear c4
      have HG := Lib.hid (And.intro hgo hrest); clear hgo hrest hhead
      go_wp2_with fail
      go_quiet (fail)
      go_wp2_with fail
      go_quiet (fail)
      go_wp2_with fail
      have hg := HG.out.1
      have hst := fun n => (hg.rdr.drewN n).store (s' := { s' with eof := false }) 4 .nilIface rfl rfl rfl ⟨hg.rdr.ok.rw, hg.rdr.ok.wn, hg.rdr.ok.lo, hg.rdr.ok.hi, hg.rdr.ok.lb0, hg.rdr.ok.lb1, hg.rdr.ok.lr0, hg.rdr.ok.lr1⟩
      refine (readErr61 E L { s' with eof := false } _ (hst _).1).mono ?_
      rintro e w6 ⟨rfl, h6, hk6⟩
      have hkk : Keep (rdX L) wr w6 := ((Keep.refl (rdX L) wr).drewN _).trans ((hst _).2.trans hk6)
      have H6 := Lib.hid (And.intro hg hkk); clear hg hst h6 hk6 hkk
      clear c0 c1 c2 c3 c4' c5 c6 c7 q
      go_wp2_with fail
      go_ret2
      have hav : left s' = [] := by
        have := HG.out.2.2
        simp only [left, this, List.append_nil, avail]
        apply List.eq_nil_of_length_eq_zero
        simp
        omega
      have hall := H6.out.1.all
      rw [hav, List.append_nil] at hall
      refine ⟨?_, ⟨v', ?_, ?_⟩, ?_⟩
      · have e : (now.length - got.length : Nat) = all.length := by rw [hall]; simp
        rw [← e]; rfl
      · rw [← hall]
        exact H6.out.1.snk.keep H6.out.2 H6.out.1.apart.k H6.out.1.apart.v
      · exact H6.out.1.row
      · exact H6.out.1.keep.trans (H6.out.2.mono (fun k hk => .inl hk))
end Go.Proofs.YtancmlapnhccdaaDoor
