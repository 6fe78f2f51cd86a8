/- bufio.Writer.ReadFrom over a source: the walk (printed by gen_rfm.py). -/
import Derived.Test.YtancmlapnhccdaaDoorWbs
namespace Go.Proofs.YtancmlapnhccdaaDoor
open Go.RowKit

theorem nil_read (S : Nat) (w : World) : (nilAhead 265 79 (.pointer (some ⟨S, 0, none⟩)) "Read").run Tryd.prog w = .ok (some false) w := by kernel_rfl

/-- a writer and a source beside it -/
structure RfOk (w : World) (E : Nat → Addr) (L : WL) (s : WS) (v : Value) (S P B : Nat) (ps : List (List UInt8)) : Prop where
  wtr : WtrAt w L s v
  src : SrcAt w S P B ps
  env : Env w B E
  bS : B ≤ S
  bP : B ≤ P
  bN : B ≤ L.N
  size : B ≤ w.heap.size
  nS : ¬ wtX L v S
  nP : ¬ wtX L v P
def rfX (L : WL) (v : Value) (S P : Nat) : Nat → Prop := fun k => wtX L v k ∨ k = S ∨ k = P
theorem RfOk.lt {w : World} {E : Nat → Addr} {L : WL} {s : WS} {v : Value} {S P B : Nat} {ps : List (List UInt8)} (h : RfOk w E L s v S P B ps) : S < w.heap.size ∧ P < w.heap.size := by
  obtain ⟨A, c, o, row, q1, q2, _⟩ := h.src
  exact ⟨q1.lt, q2.lt⟩
theorem RfOk.drewN {w : World} {E : Nat → Addr} {L : WL} {s : WS} {v : Value} {S P B : Nat} {ps : List (List UInt8)} (h : RfOk w E L s v S P B ps) (n : Nat) : RfOk (w.drewN n) E L s v S P B ps :=
  ⟨h.wtr.drewN n, h.src.keep ((Keep.refl (fun _ => False) w).drewN n) (fun h => h) (fun h => h) h.size (fun _ h => h.elim), h.env.keep ((Keep.refl (fun _ => False) w).drewN n) (fun _ h => h.elim) h.size, h.bS, h.bP, h.bN, h.size, h.nS, h.nP⟩
theorem RfOk.drew {w : World} {E : Nat → Addr} {L : WL} {s : WS} {v : Value} {S P B : Nat} {ps : List (List UInt8)} (h : RfOk w E L s v S P B ps) : RfOk w.drew E L s v S P B ps :=
  ⟨h.wtr.drew, h.src.keep ((Keep.refl (fun _ => False) w).drew) (fun h => h) (fun h => h) h.size (fun _ h => h.elim), h.env.keep ((Keep.refl (fun _ => False) w).drew) (fun _ h => h.elim) h.size, h.bS, h.bP, h.bN, h.size, h.nS, h.nP⟩
/-- the writer alone has gone on -/
theorem RfOk.write {w w' : World} {E : Nat → Addr} {L : WL} {s s' : WS} {v v' : Value} {S P B : Nat} {ps : List (List UInt8)} (h : RfOk w E L s v S P B ps) (hw : WtrAt w' L s' v') (hv : ∀ k, v'.ownBlock = some k → v.ownBlock = some k ∨ w.heap.size ≤ k) (hk : Keep (wtX L v) w w') : RfOk w' E L s' v' S P B ps := by
  have hge : ∀ k, wtX L v k → B ≤ k := fun k hx => Nat.le_trans h.bN (h.wtr.ge k hx)
  refine ⟨hw, h.src.keep hk h.nS h.nP h.size hge, h.env.keep hk hge h.size, h.bS, h.bP, h.bN, Nat.le_trans h.size hk.size, fun hx => ?_, fun hx => ?_⟩
  · rcases wtX_next hv S hx with e | e
    · exact h.nS e
    · have := h.lt.1; omega
  · rcases wtX_next hv P hx with e | e
    · exact h.nP e
    · have := h.lt.2; omega
/-- the source is at its end -/
theorem RfOk.ended {w w' : World} {E : Nat → Addr} {L : WL} {s : WS} {v : Value} {S P B : Nat} {ps : List (List UInt8)} (h : RfOk w E L s v S P B ps) (hs : SrcAt w' S P B []) (hk : Keep (· = S) w w') : RfOk w' E L s v S P B [] :=
  ⟨h.wtr.keep hk (fun k e hx => h.nS (e ▸ hx)), hs, h.env.keep hk (fun k e => by rw [e]; exact h.bS) h.size, h.bS, h.bP, h.bN, Nat.le_trans h.size hk.size, h.nS, h.nP⟩
/-- the source has given bytes into the buffer, and their number has been added -/
theorem RfOk.gave {w w2 : World} {E : Nat → Addr} {L : WL} {s : WS} {v : Value} {S P B : Nat} {ps ps' : List (List UInt8)} (h : RfOk w E L s v S P B ps) (p : List UInt8) (hp : p.length ≤ s.buf.length - s.n) (hs : SrcAt w2 S P B ps') (hG : Blk w2 L.WB 5 (splice (bvs s.buf) s.n (bvs p)).toArray) (hK : Keep (fun k => k = S ∨ k = P ∨ k = L.WB) w w2) :
    RfOk (w2.setCell ⟨L.W, 2, none⟩ (.int .i64 ((s.n + p.length : Nat) : Int))) E L (putM s p) v S P B ps' ∧ Keep (rfX L v S P) w (w2.setCell ⟨L.W, 2, none⟩ (.int .i64 ((s.n + p.length : Nat) : Int))) := by
  have hle := h.wtr.le
  have hl := putM_len s p hle hp
  have hW : ¬ (L.W = S ∨ L.W = P ∨ L.W = L.WB) := by
    rintro (e | e | e)
    · exact h.nS (.inl e.symm)
    · exact h.nP (.inl e.symm)
    · exact h.wtr.neB e
  have hKk : ¬ (L.K = S ∨ L.K = P ∨ L.K = L.WB) := by
    rintro (e | e | e)
    · exact h.nS (.inr (.inr (.inl e.symm)))
    · exact h.nP (.inr (.inr (.inl e.symm)))
    · exact h.wtr.neBK e.symm
  have hv : ∀ k, v.ownBlock = some k → ¬ (k = S ∨ k = P ∨ k = L.WB) := by
    rintro k hk (e | e | e)
    · exact h.nS (.inr (.inr (.inr (e ▸ hk))))
    · exact h.nP (.inr (.inr (.inr (e ▸ hk))))
    · exact h.wtr.vb (by rw [hk, e])
  have hge : ∀ k, (k = S ∨ k = P ∨ k = L.WB) → B ≤ k := by
    rintro k (e | e | e)
    · rw [e]; exact h.bS
    · rw [e]; exact h.bP
    · rw [e]; exact Nat.le_trans h.bN h.wtr.bWB
  have h2 : WtrAt w2 L { s with buf := (putM s p).buf } v := {
    blk := by
      have := h.wtr.blk.keep hK hW
      show Blk w2 L.W 121 (wtCells L.WB L.K (putM s p).buf.length s.n)
      rw [hl]; exact this
    buf := by
      show Blk w2 L.WB 5 (bvs (splice s.buf s.n p)).toArray
      rw [← bvs_splice]; exact hG
    snk := h.wtr.snk.keep hK hKk hv
    vb := h.wtr.vb
    le := by show s.n ≤ (putM s p).buf.length; rw [hl]; exact hle
    lo := by show 1 ≤ (putM s p).buf.length; rw [hl]; exact h.wtr.lo
    hi := by show (putM s p).buf.length ≤ 4096; rw [hl]; exact h.wtr.hi
    bW := h.wtr.bW
    bWB := h.wtr.bWB
    bK := h.wtr.bK
    size := Nat.le_trans h.wtr.size hK.size }
  have h3 := h2.setN (s.n + p.length) (by show _ ≤ (putM s p).buf.length; rw [hl]; omega)
  have hs2 : B ≤ w2.heap.size := Nat.le_trans h.size hK.size
  have hge2 : ∀ k, wtX L v k → B ≤ k := fun k hx => Nat.le_trans h.bN (h.wtr.ge k hx)
  refine ⟨⟨h3.1, hs.keep h3.2 h.nS h.nP hs2 hge2, (h.env.keep hK hge h.size).keep h3.2 hge2 hs2, h.bS, h.bP, h.bN, Nat.le_trans hs2 h3.2.size, h.nS, h.nP⟩, ?_⟩
  refine (hK.mono ?_).trans (h3.2.mono (fun k e => .inl e))
  rintro k (e | e | e)
  · exact .inr (.inl e)
  · exact .inr (.inr e)
  · exact .inl (.inr (.inl e))

/-- what holds at the head of ReadFrom's loop -/
structure RfAt (w : World) (E : Nat → Addr) (L : WL) (s : WS) (v : Value) (S P B : Nat) (ps : List (List UInt8)) (s' : WS) (v' : Value) (ps' : List (List UInt8)) (wr : World) : Prop where
  ok : RfOk wr E L s' v' S P B ps'
  row : ∀ k, v'.ownBlock = some k → v.ownBlock = some k ∨ w.heap.size ≤ k
  keep : Keep (rfX L v S P) w wr
  all : taken s' ++ ps'.flatten = taken s ++ ps.flatten
theorem rfX_next {w : World} {L : WL} {v v' : Value} {S P : Nat} (hr : ∀ k, v'.ownBlock = some k → v.ownBlock = some k ∨ w.heap.size ≤ k) : ∀ k, rfX L v' S P k → rfX L v S P k ∨ w.heap.size ≤ k := by
  rintro k (e | e)
  · rcases wtX_next hr k e with e | e
    · exact .inl (.inl e)
    · exact .inr e
  · exact .inl (.inr e)
theorem RfAt.room {w : World} {E : Nat → Addr} {L : WL} {s : WS} {v : Value} {S P B : Nat} {ps : List (List UInt8)} {s' : WS} {v' : Value} {ps' : List (List UInt8)} {wr : World} (h : RfAt w E L s v S P B ps s' v' ps' wr) (hs : s.n ≤ s.buf.length) (hr : Room (s.got.length + s.n + ps.flatten.length)) : Room (s'.got.length + s'.n + ps'.flatten.length) := by
  have e := congrArg List.length h.all
  have := h.ok.wtr.le
  simp only [taken, List.length_append, List.length_take] at e
  exact hr.mono (by omega)
theorem RfAt.drewN {w : World} {E : Nat → Addr} {L : WL} {s : WS} {v : Value} {S P B : Nat} {ps : List (List UInt8)} {s' : WS} {v' : Value} {ps' : List (List UInt8)} {wr : World} (h : RfAt w E L s v S P B ps s' v' ps' wr) (n : Nat) : RfAt w E L s v S P B ps s' v' ps' (wr.drewN n) := ⟨h.ok.drewN n, h.row, h.keep.drewN n, h.all⟩
theorem RfAt.flush {w : World} {E : Nat → Addr} {L : WL} {s : WS} {v : Value} {S P B : Nat} {ps : List (List UInt8)} {s' : WS} {v' : Value} {ps' : List (List UInt8)} {wr w2 : World} (h : RfAt w E L s v S P B ps s' v' ps' wr) (hn : WNext L (flushM s') v' wr w2) : ∃ v2, RfAt w E L s v S P B ps (flushM s') v2 ps' w2 := by
  obtain ⟨v2, h1, h2, h3⟩ := hn
  have hv : ∀ k, v2.ownBlock = some k → v.ownBlock = some k ∨ w.heap.size ≤ k := fun k hk => by
    rcases h2 k hk with e | e
    · exact h.row k e
    · exact .inr (Nat.le_trans h.keep.size e)
  refine ⟨v2, h.ok.write h1 h2 h3, hv, h.keep.then h3 (fun k hx => ?_), by rw [flushM_taken]; exact h.all⟩
  exact rfX_next (S := S) (P := P) h.row k (.inl hx)

def RfRel (w : World) (E : Nat → Addr) (L : WL) (s : WS) (v : Value) (S P B : Nat) (ps : List (List UInt8)) (k : Nat) (t4 : Value) (wr : World) : Prop :=
  ∃ s' v' ps', t4 = .int .i64 ((ps.flatten.length - ps'.flatten.length : Nat) : Int) ∧ RfAt w E L s v S P B ps s' v' ps' wr ∧ ps'.flatten.length ≤ ps.flatten.length ∧ k = ps'.flatten.length
/-- what ReadFrom gives -/
def Rf37 (w : World) (E : Nat → Addr) (L : WL) (s : WS) (v : Value) (S P B : Nat) (ps : List (List UInt8)) (e : Ending) (w' : World) : Prop :=
  e = .returned (.tuple #[.int .i64 ((ps.flatten.length : Nat) : Int), .nilIface]) ∧ ∃ s' v', RfAt w E L s v S P B ps s' v' [] w'

set_option maxRecDepth 100000 in
set_option maxHeartbeats 4000000 in
theorem readFrom37 (E : Nat → Addr) (L : WL) (s : WS) (v : Value) (S P B : Nat) (ps : List (List UInt8)) (w : World) (h : RfOk w E L s v S P B ps) (hroom : Room (s.got.length + s.n + ps.flatten.length)) :
    Calls Tryd.prog 37 #[.pointer (some ⟨L.W, 0, none⟩), .iface 79 (.pointer (some ⟨S, 0, none⟩))] w (Rf37 w E L s v S P B ps) := by
  obtain ⟨c0, c1, c2, c3⟩ := h.wtr.cells
  have ta2 := fun w => assert_wr L.K w
  have hpl : ps.flatten.length ≤ 1000000000 := by unfold Room at hroom; omega
  have H := Lib.hid (And.intro h hroom); clear h hroom
  obtain ⟨tot, htot⟩ : ∃ tot, tot = ps.flatten.length := ⟨_, rfl⟩
  rw [← htot] at hpl
  have Htot := Lib.hid htot; clear htot
  go_enter Tryd.func37, Tryd.ntmps37
  go_wp2_with fail
  clear c0 c1 c2 c3
  go_loopg [4] tot (fun k t4 wr => RfRel w E L s v S P B ps k t4 wr)
  case atStart => exact ⟨s, v, ps, by simp, ⟨H.out.1, fun k hk => .inl hk, Keep.refl _ _, rfl⟩, Nat.le_refl _, Htot.out⟩
  case round =>
    obtain ⟨s', v', ps', ht4, hat, hle, hk⟩ := hrel
    subst ht4
    rw [← Htot.out] at hle ⊢
    obtain ⟨pl, hpl2⟩ : ∃ pl, pl = ps'.flatten.length := ⟨_, rfl⟩
    rw [← hpl2] at hle hk ⊢
    have Hpl := Lib.hid hpl2; clear hpl2
    have Hk := Lib.hid hk; clear hk
    have HA := Lib.hid hat; clear hat
    go_wp2_with fail
    refine (available62 L s' v' wr HA.out.ok.wtr).mono ?_
    rintro e w1 ⟨rfl, m, rfl⟩
    have hat := HA.out.drewN m
    have hhi := hat.ok.wtr.hi
    have hlo := hat.ok.wtr.lo
    have hln := hat.ok.wtr.le
    generalize wr.drewN m = wq at *
    clear HA
    by_cases hfull : s'.buf.length - s'.n = 0
    · have hb0 : (((s'.buf.length - s'.n : Nat) : Int) == 0) = true := by rw [hfull]; rfl
      rw [hfull]
      have hrm0 := hat.room H.out.1.wtr.le H.out.2
      have HQ := Lib.hid hat; clear hat hb0
      go_wp2_with fail
      refine (flush38 L s' v' wq HQ.out.ok.wtr (hrm0.mono (by omega))).mono ?_
      rintro e w2 ⟨rfl, hnx⟩
      obtain ⟨v2, hat2⟩ := HQ.out.flush hnx
      have hnf0 : (flushM s').n < (flushM s').buf.length := by show 0 < s'.buf.length; omega
      have HA := Lib.hid hat2; clear hat2 hnx HQ hfull hrm0
      go_wp2_with fail
      have hmt := fun w => meth_read S w
      have hnr := fun w => nil_read S w
      obtain ⟨t, ht⟩ : ∃ t : WS, t = flushM s' := ⟨_, rfl⟩
      rw [← ht] at HA
      obtain ⟨c0, c1, c2, c3⟩ := HA.out.ok.wtr.cells
      have hnf : t.n < t.buf.length := by rw [ht]; exact hnf0
      have hbl : t.buf.length ≤ 4096 := HA.out.ok.wtr.hi
      have Ht := Lib.hid ht; clear ht hnf0
      have hsl := slice_l L.WB t.buf.length t.n (Nat.le_of_lt hnf)
      have hcA := cutA_pos (g := L.WB) hnf
      have hlt1 : (t.n : Int) < (t.buf.length : Int) := by omega
      refine wp_loop_rounds 1 ?_
      rw [rounds_succ]
      go_wp2_with fail
      have k0 := Lib.hid (And.intro c1 c2)
      clear c0 c1 c2 c3
      have hW5 := HA.out.ok.drew
      rcases hd : dropE ps' with _ | ⟨q, rest⟩
      · have H4 := Lib.hid (fun u => src_end S P B E ps' u w2.drew hW5.env hW5.src hW5.bS hW5.size hd)
        have Hd := Lib.hid hd; clear hd hW5
        go_region_held3 (fun w' => w'.cell? ⟨L.W, 1, none⟩ = some (.slice (some ⟨L.WB, 0, none⟩) t.buf.length t.buf.length) ∧ w'.cell? ⟨L.W, 2, none⟩ = some (.int .i64 (t.n : Nat))) (first | exact k0.out | exact k1.out)
          (first | (go_at_call 100; refine (H4.out _).mono ?_; rintro e w5 ⟨rfl, hs5, hk5⟩; have hR5 := HA.out.ok.drew.wtr.blk.keep hk5 (fun e => HA.out.ok.nS (.inl e.symm)); have k1 := Lib.hid (And.intro (hR5.cell 1) (hR5.cell 2)); have H5 := Lib.hid (And.intro hs5 (And.intro hk5 hR5)); clear hs5 hk5 hR5 k0))
        have c2 : w5.cell? ⟨L.W, 2, none⟩ = some (.int .i64 (t.n : Nat)) := H5.out.2.2.cell 2
        have f2 := H5.out.2.2.frozen 2
        have hok5 := HA.out.ok.drew.ended H5.out.1 H5.out.2.1
        have hok6 := (hok5.wtr.setN t.n hok5.wtr.le)
        have hok7 := hok5.write hok6.1 (fun k hk => .inl hk) hok6.2
        have hat7 : RfAt w E L s v S P B ps t v2 [] (w5.setCell ⟨L.W, 2, none⟩ (.int .i64 (t.n : Nat))) := by
          refine ⟨hok7, HA.out.row, ?_, ?_⟩
          · refine (HA.out.keep.drew.then H5.out.2.1 (fun k e => .inl (.inr (.inl e)))).then hok6.2 (fun k hx => ?_)
            exact rfX_next (S := S) (P := P) HA.out.row k (.inl hx)
          · have := HA.out.all
            rw [(dropE_nil_iff ps').1 Hd.out] at this
            exact this
        have hz : pl = 0 := by rw [Hpl.out, (dropE_nil_iff ps').1 Hd.out]; rfl
        have c7 : (w5.setCell ⟨L.W, 2, none⟩ (.int .i64 (t.n : Nat))).cell? ⟨0, 0, none⟩ = some (sent (E 0)) := hok7.env.at_ 0 (by omega)
        have qq := fun w => eql_same (E 0) w
        have H7 := Lib.hid (And.intro hat7 hz); clear hok5 hok6 hok7 hat7 k1
        rw [hz]
        clear hz
        go_wp2_with fail
        refine (available62 L t v2 _ H7.out.1.ok.wtr).mono ?_
        rintro e w8 ⟨rfl, m8, rfl⟩
        have hav : (((t.buf.length - t.n : Nat) : Int) == 0) = false := by simp; omega
        clear c7 c2 f2
        have hat8 := H7.out.1.drewN m8
        generalize (w5.setCell ⟨L.W, 2, none⟩ (.int .i64 (t.n : Nat))).drewN m8 = w8 at *
        go_wp2_with fail
        go_ret2
        refine ⟨?_, t, v2, hat8⟩
        rw [← Htot.out]
        rfl
      · obtain ⟨rm, hrm⟩ : ∃ rm, rm = t.buf.length - t.n := ⟨_, rfl⟩
        have H4 := Lib.hid (src_some S P B L.WB t.n (t.buf.length - t.n) (t.buf.length - t.n) (bvs t.buf) ps' q rest w2.drew hW5.src hW5.bS hW5.bP hW5.size hd hW5.wtr.buf (Nat.le_trans hW5.bN hW5.wtr.bWB) (by rw [bvs_length]; omega))
        have hqp : 0 < q.length := List.length_pos_iff.2 (dropE_head hd)
        have hfl : ps'.flatten = q ++ rest.flatten := by rw [← dropE_flatten, hd]; rfl
        have hqt : (q.take (t.buf.length - t.n)).length = Nat.min q.length (t.buf.length - t.n) := by rw [List.length_take]; exact Nat.min_comm _ _
        have hmp : 0 < Nat.min q.length (t.buf.length - t.n) := by show 0 < min _ _; omega
        have hm1 : Nat.min q.length (t.buf.length - t.n) ≤ 4096 := by show min _ _ ≤ _; omega
        have hm2 : Nat.min q.length (t.buf.length - t.n) ≤ t.buf.length - t.n := Nat.min_le_right _ _
        have Hd := Lib.hid (And.intro hd (And.intro hfl hqt)); clear hd hW5 hfl hqt hrm
        have hn1 : t.n ≤ 4096 := by omega
        go_region_held3 (fun w' => w'.cell? ⟨L.W, 1, none⟩ = some (.slice (some ⟨L.WB, 0, none⟩) t.buf.length t.buf.length) ∧ w'.cell? ⟨L.W, 2, none⟩ = some (.int .i64 (t.n : Nat))) (first | exact k0.out | exact k1.out)
          (first | (go_at_call 100; refine H4.out.mono ?_; rintro e w5 ⟨rfl, hs5, hb5, hk5⟩; have hR5 := HA.out.ok.drew.wtr.blk.keep hk5 (by rintro (e | e | e); exact HA.out.ok.nS (.inl e.symm); exact HA.out.ok.nP (.inl e.symm); exact HA.out.ok.wtr.neB e); have k1 := Lib.hid (And.intro (hR5.cell 1) (hR5.cell 2)); have H5 := Lib.hid (And.intro hs5 (And.intro hb5 (And.intro hk5 hR5))); clear hs5 hb5 hk5 hR5 k0))
        have c2 : w5.cell? ⟨L.W, 2, none⟩ = some (.int .i64 (t.n : Nat)) := H5.out.2.2.2.cell 2
        have f2 := H5.out.2.2.2.frozen 2
        have hgave := HA.out.ok.drew.gave (q.take (t.buf.length - t.n)) (by rw [Hd.out.2.2]; exact hm2) H5.out.1 H5.out.2.1 H5.out.2.2.1
        rw [Hd.out.2.2] at hgave
        have Hg := Lib.hid hgave; clear hgave k1
        have hlq : pl = q.length + rest.flatten.length := by rw [Hpl.out, Hd.out.2.1, List.length_append]
        have hmq : Nat.min q.length (t.buf.length - t.n) ≤ q.length := Nat.min_le_left _ _
        have hdq : (q.drop (t.buf.length - t.n)).length + Nat.min q.length (t.buf.length - t.n) = q.length := by rw [List.length_drop]; show q.length - _ + min _ _ = _; omega
        have Hq := Lib.hid (And.intro hlq hdq); clear hlq hdq
        generalize hmm : Nat.min q.length (t.buf.length - t.n) = mm at *
        have Hmm := Lib.hid hmm; clear hmm
        have hmne : ((mm : Int) == 0) = false := by simp; omega
        have hmne2 : ((mm : Int) != 0) = true := by simp; omega
        have h100 : decide (mm < 100000000) = true := by simp; omega
        go_wp2_with fail
        go_roundg ((q.drop (t.buf.length - t.n) :: rest).flatten.length)
        case measure =>
          have h1 := Hk.out
          have h2 := Hq.out.1
          have h3 := Hq.out.2
          simp only [List.flatten_cons, List.length_append]
          omega
        case rel =>
          have h2 := Hq.out.1
          have h3 := Hq.out.2
          obtain ⟨hg1, hg2⟩ := Hg.out
          have hcast : ((t.n + mm : Nat) : Int) = (t.n : Int) + (mm : Int) := by omega
          rw [hcast] at hg1 hg2
          refine ⟨putM t (q.take (t.buf.length - t.n)), v2, q.drop (t.buf.length - t.n) :: rest, ?_, ⟨?_, HA.out.row, ?_, ?_⟩, ?_, rfl⟩
          · refine congrArg (Value.int .i64) ?_
            rw [← Htot.out]
            simp only [List.flatten_cons, List.length_append]
            omega
          · exact hg1
          · refine HA.out.keep.drew.then hg2 (rfX_next HA.out.row)
          · rw [putM_taken t _ (Nat.le_of_lt hnf) (by rw [Hd.out.2.2]; exact hm2)]
            have := HA.out.all
            rw [Hd.out.2.1] at this
            rw [List.flatten_cons, ← this]
            simp only [List.append_assoc]
            rw [← List.append_assoc (q.take _), List.take_append_drop]
          · rw [← Htot.out]
            simp only [List.flatten_cons, List.length_append]
            omega
    · have hb0 : (((s'.buf.length - s'.n : Nat) : Int) == 0) = false := by simp; omega
      have hnf0 : s'.n < s'.buf.length := by omega
      have HA := Lib.hid hat; clear hat hfull
      go_wp2_with fail
      have hmt := fun w => meth_read S w
      have hnr := fun w => nil_read S w
      obtain ⟨t, ht⟩ : ∃ t : WS, t = s' := ⟨_, rfl⟩
      rw [← ht] at HA
      obtain ⟨c0, c1, c2, c3⟩ := HA.out.ok.wtr.cells
      have hnf : t.n < t.buf.length := by rw [ht]; exact hnf0
      have hbl : t.buf.length ≤ 4096 := HA.out.ok.wtr.hi
      have Ht := Lib.hid ht; clear ht hnf0
      have hsl := slice_l L.WB t.buf.length t.n (Nat.le_of_lt hnf)
      have hcA := cutA_pos (g := L.WB) hnf
      have hlt1 : (t.n : Int) < (t.buf.length : Int) := by omega
      refine wp_loop_rounds 1 ?_
      rw [rounds_succ]
      go_wp2_with fail
      have k0 := Lib.hid (And.intro c1 c2)
      clear c0 c1 c2 c3
      have hW5 := HA.out.ok.drew
      rcases hd : dropE ps' with _ | ⟨q, rest⟩
      · have H4 := Lib.hid (fun u => src_end S P B E ps' u wq.drew hW5.env hW5.src hW5.bS hW5.size hd)
        have Hd := Lib.hid hd; clear hd hW5
        go_region_held3 (fun w' => w'.cell? ⟨L.W, 1, none⟩ = some (.slice (some ⟨L.WB, 0, none⟩) t.buf.length t.buf.length) ∧ w'.cell? ⟨L.W, 2, none⟩ = some (.int .i64 (t.n : Nat))) (first | exact k0.out | exact k1.out)
          (first | (go_at_call 100; refine (H4.out _).mono ?_; rintro e w5 ⟨rfl, hs5, hk5⟩; have hR5 := HA.out.ok.drew.wtr.blk.keep hk5 (fun e => HA.out.ok.nS (.inl e.symm)); have k1 := Lib.hid (And.intro (hR5.cell 1) (hR5.cell 2)); have H5 := Lib.hid (And.intro hs5 (And.intro hk5 hR5)); clear hs5 hk5 hR5 k0))
        have c2 : w5.cell? ⟨L.W, 2, none⟩ = some (.int .i64 (t.n : Nat)) := H5.out.2.2.cell 2
        have f2 := H5.out.2.2.frozen 2
        have hok5 := HA.out.ok.drew.ended H5.out.1 H5.out.2.1
        have hok6 := (hok5.wtr.setN t.n hok5.wtr.le)
        have hok7 := hok5.write hok6.1 (fun k hk => .inl hk) hok6.2
        have hat7 : RfAt w E L s v S P B ps t v' [] (w5.setCell ⟨L.W, 2, none⟩ (.int .i64 (t.n : Nat))) := by
          refine ⟨hok7, HA.out.row, ?_, ?_⟩
          · refine (HA.out.keep.drew.then H5.out.2.1 (fun k e => .inl (.inr (.inl e)))).then hok6.2 (fun k hx => ?_)
            exact rfX_next (S := S) (P := P) HA.out.row k (.inl hx)
          · have := HA.out.all
            rw [(dropE_nil_iff ps').1 Hd.out] at this
            exact this
        have hz : pl = 0 := by rw [Hpl.out, (dropE_nil_iff ps').1 Hd.out]; rfl
        have c7 : (w5.setCell ⟨L.W, 2, none⟩ (.int .i64 (t.n : Nat))).cell? ⟨0, 0, none⟩ = some (sent (E 0)) := hok7.env.at_ 0 (by omega)
        have qq := fun w => eql_same (E 0) w
        have H7 := Lib.hid (And.intro hat7 hz); clear hok5 hok6 hok7 hat7 k1
        rw [hz]
        clear hz
        go_wp2_with fail
        refine (available62 L t v' _ H7.out.1.ok.wtr).mono ?_
        rintro e w8 ⟨rfl, m8, rfl⟩
        have hav : (((t.buf.length - t.n : Nat) : Int) == 0) = false := by simp; omega
        clear c7 c2 f2
        have hat8 := H7.out.1.drewN m8
        generalize (w5.setCell ⟨L.W, 2, none⟩ (.int .i64 (t.n : Nat))).drewN m8 = w8 at *
        go_wp2_with fail
        go_ret2
        refine ⟨?_, t, v', hat8⟩
        rw [← Htot.out]
        rfl
      · obtain ⟨rm, hrm⟩ : ∃ rm, rm = t.buf.length - t.n := ⟨_, rfl⟩
        have H4 := Lib.hid (src_some S P B L.WB t.n (t.buf.length - t.n) (t.buf.length - t.n) (bvs t.buf) ps' q rest wq.drew hW5.src hW5.bS hW5.bP hW5.size hd hW5.wtr.buf (Nat.le_trans hW5.bN hW5.wtr.bWB) (by rw [bvs_length]; omega))
        have hqp : 0 < q.length := List.length_pos_iff.2 (dropE_head hd)
        have hfl : ps'.flatten = q ++ rest.flatten := by rw [← dropE_flatten, hd]; rfl
        have hqt : (q.take (t.buf.length - t.n)).length = Nat.min q.length (t.buf.length - t.n) := by rw [List.length_take]; exact Nat.min_comm _ _
        have hmp : 0 < Nat.min q.length (t.buf.length - t.n) := by show 0 < min _ _; omega
        have hm1 : Nat.min q.length (t.buf.length - t.n) ≤ 4096 := by show min _ _ ≤ _; omega
        have hm2 : Nat.min q.length (t.buf.length - t.n) ≤ t.buf.length - t.n := Nat.min_le_right _ _
        have Hd := Lib.hid (And.intro hd (And.intro hfl hqt)); clear hd hW5 hfl hqt hrm
        have hn1 : t.n ≤ 4096 := by omega
        go_region_held3 (fun w' => w'.cell? ⟨L.W, 1, none⟩ = some (.slice (some ⟨L.WB, 0, none⟩) t.buf.length t.buf.length) ∧ w'.cell? ⟨L.W, 2, none⟩ = some (.int .i64 (t.n : Nat))) (first | exact k0.out | exact k1.out)
          (first | (go_at_call 100; refine H4.out.mono ?_; rintro e w5 ⟨rfl, hs5, hb5, hk5⟩; have hR5 := HA.out.ok.drew.wtr.blk.keep hk5 (by rintro (e | e | e); exact HA.out.ok.nS (.inl e.symm); exact HA.out.ok.nP (.inl e.symm); exact HA.out.ok.wtr.neB e); have k1 := Lib.hid (And.intro (hR5.cell 1) (hR5.cell 2)); have H5 := Lib.hid (And.intro hs5 (And.intro hb5 (And.intro hk5 hR5))); clear hs5 hb5 hk5 hR5 k0))
        have c2 : w5.cell? ⟨L.W, 2, none⟩ = some (.int .i64 (t.n : Nat)) := H5.out.2.2.2.cell 2
        have f2 := H5.out.2.2.2.frozen 2
        have hgave := HA.out.ok.drew.gave (q.take (t.buf.length - t.n)) (by rw [Hd.out.2.2]; exact hm2) H5.out.1 H5.out.2.1 H5.out.2.2.1
        rw [Hd.out.2.2] at hgave
        have Hg := Lib.hid hgave; clear hgave k1
        have hlq : pl = q.length + rest.flatten.length := by rw [Hpl.out, Hd.out.2.1, List.length_append]
        have hmq : Nat.min q.length (t.buf.length - t.n) ≤ q.length := Nat.min_le_left _ _
        have hdq : (q.drop (t.buf.length - t.n)).length + Nat.min q.length (t.buf.length - t.n) = q.length := by rw [List.length_drop]; show q.length - _ + min _ _ = _; omega
        have Hq := Lib.hid (And.intro hlq hdq); clear hlq hdq
        generalize hmm : Nat.min q.length (t.buf.length - t.n) = mm at *
        have Hmm := Lib.hid hmm; clear hmm
        have hmne : ((mm : Int) == 0) = false := by simp; omega
        have hmne2 : ((mm : Int) != 0) = true := by simp; omega
        have h100 : decide (mm < 100000000) = true := by simp; omega
        go_wp2_with fail
        go_roundg ((q.drop (t.buf.length - t.n) :: rest).flatten.length)
        case measure =>
          have h1 := Hk.out
          have h2 := Hq.out.1
          have h3 := Hq.out.2
          simp only [List.flatten_cons, List.length_append]
          omega
        case rel =>
          have h2 := Hq.out.1
          have h3 := Hq.out.2
          obtain ⟨hg1, hg2⟩ := Hg.out
          have hcast : ((t.n + mm : Nat) : Int) = (t.n : Int) + (mm : Int) := by omega
          rw [hcast] at hg1 hg2
          refine ⟨putM t (q.take (t.buf.length - t.n)), v', q.drop (t.buf.length - t.n) :: rest, ?_, ⟨?_, HA.out.row, ?_, ?_⟩, ?_, rfl⟩
          · refine congrArg (Value.int .i64) ?_
            rw [← Htot.out]
            simp only [List.flatten_cons, List.length_append]
            omega
          · exact hg1
          · refine HA.out.keep.drew.then hg2 (rfX_next HA.out.row)
          · rw [putM_taken t _ (Nat.le_of_lt hnf) (by rw [Hd.out.2.2]; exact hm2)]
            have := HA.out.all
            rw [Hd.out.2.1] at this
            rw [List.flatten_cons, ← this]
            simp only [List.append_assoc]
            rw [← List.append_assoc (q.take _), List.take_append_drop]
          · rw [← Htot.out]
            simp only [List.flatten_cons, List.length_append]
            omega
end Go.Proofs.YtancmlapnhccdaaDoor
