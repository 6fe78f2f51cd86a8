/- spec.Answers: the walk (printed by gen_ans.py). -/
import Derived.Test.YtancmlapnhccdaaDoorSph
namespace Go.Proofs.YtancmlapnhccdaaDoor
open Go.RowKit

theorem out_reads' (w3 : World) (A : Option Addr) (l c : Nat) (n err : Int) {g : Nat} (hg : w3.heap.size = g) : Reads (w3.alloc (.cells (outCells A l c n err) 36)) (w3.alloc (.cells (outCells A l c n err) 36)).heap.size 3 (some ⟨g, 0, none⟩) 1 (outCells A l c n err).toList := by
  subst hg; exact out_reads w3 A l c n err
theorem outW_size (w1 : World) (g : Nat) (a : Value) (n err : Int) : (outW w1 g a n err).heap.size = w1.heap.size := by simp [outW, World.setCell]
theorem outW_blk {w1 : World} {g : Nat} {cs : Array Value} (h : Blk w1 g 36 cs) (hs : cs.size = 3) (A : Option Addr) (l c : Nat) (n err : Int) : Blk (outW w1 g (.slice A l c) n err) g 36 (outCells A l c n err) := by
  have := ((h.set_ 0 (.slice A l c)).set_ 1 (.int .i64 n)).set_ 2 (.int .i64 err)
  unfold outW outCells
  obtain ⟨l⟩ := cs
  match l, hs with
  | [x, y, z], _ => simpa using this

def AnsRel (R : Nat) (A : Option Addr) (c N : Nat) (data : List UInt8) (cs : List CallD) (w : World) (k : Nat) (t9 t10 t11 t12 t27 : Value) (wr : World) : Prop :=
  ∃ i a1 c1 a2 c2 flat, i ≤ cs.length ∧ t27 = .int .i64 ((i : Nat) : Int) ∧ t9 = .slice a1 i c1 ∧ t10 = .slice a2 ((as0 data).run (cs.take i)).all.length c2 ∧ t11 = .int .i64 ((((as0 data).run (cs.take i)).flushed : Nat) : Int) ∧ t12 = .bool ((as0 data).run (cs.take i)).told ∧
    AnsAt R A c N w ((as0 data).run (cs.take i)) i (.slice a1 i c1) (.slice a2 ((as0 data).run (cs.take i)).all.length c2) flat wr ∧ k = cs.length - i

/-- behind the head of a round -/
structure AnIn (wr w1 : World) (x : CallD) (Ab : Option Addr) (kb : Nat) : Prop where
  below : Below wr.heap.size wr w1
  cal : Blk w1 wr.heap.size 34 (callCells x Ab kb)
  out : Blk w1 (wr.heap.size + 1) 36 (outCells none 0 0 0 0)
theorem anIn_mk (wr : World) (x : CallD) (Ab : Option Addr) (kb : Nat) {w1 : World} (h : w1 = ((wr.alloc (.cells (callCells x Ab kb) 34)).alloc (.cells (outCells none 0 0 0 0) 36)).alloc (.cells (callCells x Ab kb) 34)) : AnIn wr w1 x Ab kb := by
  subst h
  exact ⟨(((Below.refl _ _).alloc (Nat.le_refl _) _).alloc (by simp) _).alloc (by simp; omega) _, ((Blk.new wr 34 _).alloc _).alloc _, (Blk.newAt _ 36 _ (by simp)).alloc _⟩
theorem AnIn.next {wr w1 w2 : World} {x : CallD} {Ab : Option Addr} {kb : Nat} (h : AnIn wr w1 x Ab kb) (hb : Below w1.heap.size w1 w2) : AnIn wr w2 x Ab kb :=
  ⟨h.below.trans (hb.mono h.below.size), h.cal.below hb h.cal.lt, h.out.below hb h.out.lt⟩

/-- bytes have been put behind all that was written -/
theorem an_write {R : Nat} {A : Option Addr} {c N : Nat} {w wr w3 w4 : World} {a : AS} {i m : Nat} {ro ra va : Value} {flat xs : List Value} {cc oc : Array Value} (h : AnsAt R A c N w a i ro ra flat wr) (hk3 : Keep (· = R) wr w3) (hs3 : SRAt w3 R A c a.r) (hO3 : Blk w3 (wr.heap.size + 1) 36 oc) (hC3 : Blk w3 wr.heap.size 34 cc)
    (_hown : w4.ownsRow N 5 1 va m xs) (hg : w3.grownBy w4 ra.ownBlock) (hat : va.ownBlock = ra.ownBlock ∨ va.ownBlock = some w3.heap.size) :
    Keep (fun k => k = R ∨ ra.ownBlock = some k) wr w4 ∧ SRAt w4 R A c a.r ∧ Blk w4 (wr.heap.size + 1) 36 oc ∧ Blk w4 wr.heap.size 34 cc ∧ (∀ k, va.ownBlock = some k → ra.ownBlock = some k ∨ wr.heap.size ≤ k) ∧ w4.ownsRow N 36 3 ro i flat := by
  have hal : ∀ k, ra.ownBlock = some k → N ≤ k ∧ k < wr.heap.size := fun k hk => h.all.lt k hk
  have hk34 : Keep (fun k => ra.ownBlock = some k) w3 w4 := (Keep.refl _ w3).grown hg (fun k hk => .inl hk)
  have hk14 : Keep (fun k => k = R ∨ ra.ownBlock = some k) wr w4 := (hk3.mono (fun k e => .inl e)).trans (hk34.mono (fun k e => .inr e))
  have hbN := h.bN
  refine ⟨hk14, hs3.keep hk34 (fun k e => by have := hal k e; omega), hO3.keep hk34 (fun e => by have := hal _ e; omega), hC3.keep hk34 (fun e => by have := hal _ e; omega), fun k hk => ?_, h.owned hk14⟩
  rcases hat with e | e
  · exact .inl (e ▸ hk)
  · rw [e] at hk
    injection hk with hk
    exact .inr (by have := hk3.size; omega)

set_option maxRecDepth 100000 in
set_option maxHeartbeats 4000000 in
theorem answers21 (A : Option Addr) (c : Nat) (data : List UInt8) (A2 : Option Addr) (c2 : Nat) (cs : List CallD) (w : World) (hd : Reads w w.heap.size 1 A data.length (bvs data)) (hcap : data.length ≤ c) (hnil : A = none → c = 0) (hc : CallsAt w w.heap.size A2 cs) (hroom : Room data.length) (hcl : Room (callsLen cs)) :
    Calls Tryd.prog 21 #[.slice A data.length c, .slice A2 cs.length c2] w (Ans21 data cs w) := by
  obtain ⟨i0, hi0, hz0, hz1, hz2⟩ := info_parts Tryd.info36
  have HI := Lib.hid (And.intro hi0 (And.intro hz0 (And.intro hz1 hz2))); clear hi0 hz0 hz1 hz2
  obtain ⟨j0, hj0, hy0, hy1, hy2⟩ := info_parts Tryd.info5
  have HJ := Lib.hid (And.intro hj0 (And.intro hy0 (And.intro hy1 hy2))); clear hj0 hy0 hy1 hy2
  have hst : AnsAt w.heap.size A c (w.heap.size + 1) w (as0 data) 0 (.slice (some ⟨w.heap.size + 1, 0, none⟩) 0 0) (.slice (some ⟨w.heap.size + 2, 0, none⟩) 0 0) [] (((w.alloc (.cells #[.slice A data.length c, .int .i64 0, .bool false, .int .i64 0, .bool false] 58)).alloc (.cells #[] 36)).alloc (.cells #[] 5)) := by
    have hb : Below w.heap.size w (((w.alloc (.cells #[.slice A data.length c, .int .i64 0, .bool false, .int .i64 0, .bool false] 58)).alloc (.cells #[] 36)).alloc (.cells #[] 5)) := (((Below.refl _ _).alloc (Nat.le_refl _) _).alloc (by simp) _).alloc (by simp; omega) _
    refine ⟨⟨((Blk.new w 58 _).alloc _).alloc _, hd.below hb, hcap, hnil, hroom, sr0_ok data⟩, ?_, ?_, fun j o hj => by simp [as0] at hj, rfl, hb, by simp, Nat.le_refl _, by omega⟩
    · have := World.ownsRow_made (e := 36) (size := 3) (base := w.heap.size + 1) (w.alloc (.cells #[.slice A data.length c, .int .i64 0, .bool false, .int .i64 0, .bool false] 58)) #[] 0 (by simp) (by simp [maxLen]) (by simp)
      have := own_keep this ((Keep.refl (fun _ => False) _).alloc (.cells #[] 5)) (fun _ _ h => h)
      simpa using this
    · have := World.ownsRow_made (e := 5) (size := 1) (base := w.heap.size + 1) ((w.alloc (.cells #[.slice A data.length c, .int .i64 0, .bool false, .int .i64 0, .bool false] 58)).alloc (.cells #[] 36)) #[] 0 (by simp) (by simp [maxLen]) (by simp)
      have e : ((w.alloc (.cells #[.slice A data.length c, .int .i64 0, .bool false, .int .i64 0, .bool false] 58)).alloc (.cells #[] 36)).heap.size = w.heap.size + 2 := by simp
      rw [e] at this
      exact this
  have HS := Lib.hid hst; clear hst
  have HC := Lib.hid (And.intro hc hcl); clear hc hd hroom hcl hnil
  go_enter Tryd.func21, Tryd.ntmps21
  go_wp2_with fail
  go_loopg [9, 10, 11, 12, 27] cs.length (fun k t9 t10 t11 t12 t27 wr => AnsRel w.heap.size A c (w.heap.size + 1) data cs w k t9 t10 t11 t12 t27 wr)
  case atStart => exact ⟨0, _, _, _, _, [], Nat.zero_le _, rfl, rfl, rfl, rfl, rfl, HS.out, rfl⟩
  case round =>
    clear HS
    obtain ⟨i, a1, c1, a2, c3, flat, hi, ht27, ht9, ht10, ht11, ht12, hA, hk⟩ := hrel
    subst ht27 ht9 ht10 ht11 ht12
    have Hk := Lib.hid hk; clear hk
    have hic : i ≤ 1000000000 := by have h1 := HC.out.2; have h2 := callsLen_ge cs; unfold Room at h1; omega
    by_cases hlt : i < cs.length
    · have hd : decide (i < cs.length) = true := by simpa using hlt
      obtain ⟨hmax, ad, Ab, kb, rfl, hadb, hrb, hcell⟩ := (HC.out.1.below hA.below).at_ hlt
      obtain ⟨x, hx⟩ : ∃ x, x = cs[i] := ⟨_, rfl⟩
      rw [← hx] at hrb hcell
      have hrun : (as0 data).run (cs.take (i + 1)) = ((as0 data).run (cs.take i)).step x := by rw [AS.run_take _ _ _ hlt, hx]
      have hal : (((as0 data).run (cs.take i)).step x).all.length ≤ 1000000000 := by
        rw [← hrun]
        have h1 := all_len data (cs.take (i + 1))
        have h2 := callsLen_le cs (i + 1)
        have h3 := HC.out.2
        unfold Room at h3
        omega
      have d0 : wr.cell? (ad.add (i * 4)) = some (.int .i64 x.kind) := hcell 0 _ rfl
      have d1 : wr.cell? ⟨(ad.add (i * 4)).block, (ad.add (i * 4)).off + 1, none⟩ = some (.int .i64 x.n) := by
        have := hcell 1 _ rfl
        rw [← add_of_add] at this
        exact this
      have d2 : wr.cell? ⟨(ad.add (i * 4)).block, (ad.add (i * 4)).off + 2, none⟩ = some (.int .u8 (x.delim.toNat : Int)) := by
        have := hcell 2 _ rfl
        rw [← add_of_add] at this
        exact this
      have d3 : wr.cell? ⟨(ad.add (i * 4)).block, (ad.add (i * 4)).off + 3, none⟩ = some (.slice Ab x.bytes.length kb) := by
        have := hcell 3 _ rfl
        rw [← add_of_add] at this
        exact this
      have Hrun := Lib.hid hrun; clear hrun hx hmax hcell
      generalize (as0 data).run (cs.take i) = a at *
      have HA := Lib.hid (And.intro hA (And.intro hrb (And.intro hadb hal))); clear hA hrb hadb hal
      obtain ⟨ar, ao, aa, af, at_⟩ := a
      simp only at HA Hrun ⊢
      by_cases hrd : rdB x = true
      · have hst := step_rd ⟨ar, ao, aa, af, at_⟩ x hrd
        have Hst := Lib.hid hst; clear hst
        rcases at_ with _ | _
        · go_wp2_with fail
          refine (isReading_is x Ab kb _ true hrd).mono ?_
          rintro e w1 ⟨rfl, hw1⟩
          have hin := anIn_mk wr x Ab kb hw1
          clear hw1 d0 d1 d2 d3
          have e0 : w1.cell? ⟨wr.heap.size, 0, none⟩ = some (.int .i64 x.kind) := hin.cal.cell 0
          have e1 : w1.cell? ⟨wr.heap.size, 1, none⟩ = some (.int .i64 x.n) := hin.cal.cell 1
          have e2 : w1.cell? ⟨wr.heap.size, 2, none⟩ = some (.int .u8 (x.delim.toNat : Int)) := hin.cal.cell 2
          have e3 : w1.cell? ⟨wr.heap.size, 3, none⟩ = some (.slice Ab x.bytes.length kb) := hin.cal.cell 3
          have HN := Lib.hid hin; clear hin
          go_wp2_with fail
          refine (scall31 w.heap.size A c ar x Ab kb w1 (HA.out.1.sr.below HN.out.below) ((rdB_iff x).1 hrd)).mono ?_
          rintro e w2 ⟨Ao, ko, rfl, hs2, hk2, hrd2, hA2⟩
          have hRw : w.heap.size < wr.heap.size := HA.out.1.sr.blk.lt
          have hO2 := HN.out.out.keep hk2 (show wr.heap.size + 1 ≠ w.heap.size by omega)
          have hkw : Keep (fun k => k = w.heap.size) wr w2 := (Keep.ofBelow HN.out.below _).trans hk2
          clear e0 e1 e2 e3
          generalize hro : (ar.call x).2.1 = o at *
          generalize hrt : (ar.call x).2.2 = tl at *
          generalize hrr : (ar.call x).1 = r' at *
          have Hst' := Lib.hid Hst.out; clear Hst
          clear hro hrt hrr
          obtain ⟨O, hO⟩ : ∃ O : Obj, O = .cells (outCells Ao o.bytes.length ko o.n ((o.err : Nat) : Int)) 36 := ⟨_, rfl⟩
          have hO3 := hO2.alloc O
          have o0 : (w2.alloc O).cell? ⟨wr.heap.size + 1, 0, none⟩ = some (.slice none 0 0) := hO3.cell 0
          have o1 : (w2.alloc O).cell? ⟨wr.heap.size + 1, 1, none⟩ = some (.int .i64 0) := hO3.cell 1
          have o2 : (w2.alloc O).cell? ⟨wr.heap.size + 1, 2, none⟩ = some (.int .i64 0) := hO3.cell 2
          have f0 := hO3.frozen 0
          have f1 := hO3.frozen 1
          have f2 := hO3.frozen 2
          have hw3 := outW_keep (w2.alloc O) (wr.heap.size + 1) (.slice Ao o.bytes.length ko) o.n ((o.err : Nat) : Int)
          have hsz3 : (outW (w2.alloc O) (wr.heap.size + 1) (.slice Ao o.bytes.length ko) o.n ((o.err : Nat) : Int)).heap.size = w2.heap.size + 1 := by rw [outW_size]; simp
          have hk3 : Keep (fun k => k = w.heap.size) wr (outW (w2.alloc O) (wr.heap.size + 1) (.slice Ao o.bytes.length ko) o.n ((o.err : Nat) : Int)) := (hkw.alloc O).then hw3 (fun k e => .inr (by omega))
          have hs3 : SRAt (outW (w2.alloc O) (wr.heap.size + 1) (.slice Ao o.bytes.length ko) o.n ((o.err : Nat) : Int)) w.heap.size A c r' := (hs2.below ((Below.refl _ _).alloc (Nat.le_refl _) O)).keep hw3 (fun k e => by omega)
          have ho3 := HA.out.1.owned (hk3.mono (fun k e => .inl e))
          have hal3 := HA.out.1.allKept hk3
          have hlt1 := HN.out.out.lt
          have hrd3 : Reads (outW (w2.alloc O) (wr.heap.size + 1) (.slice Ao o.bytes.length ko) o.n ((o.err : Nat) : Int)) (outW (w2.alloc O) (wr.heap.size + 1) (.slice Ao o.bytes.length ko) o.n ((o.err : Nat) : Int)).heap.size 1 Ao o.bytes.length (bvs o.bytes) := by
            refine ⟨hrd2.1, fun h0 => ?_⟩
            obtain ⟨ad, e1, e2⟩ := hA2 h0
            obtain ⟨ad', g1, g2, g3⟩ := hrd2.2 h0
            rw [e1] at g1
            injection g1 with g1
            subst g1
            refine ⟨ad, e1, by rw [hsz3]; omega, fun j u hj => ?_⟩
            refine (hw3.cell (p := ad.add j) (by rw [block_of_add]; simp; omega) (by rw [block_of_add]; omega)).trans ?_
            exact (World.cell?_alloc_lt w2 O (ad.add j) (by rw [block_of_add]; exact g2)).trans (g3 j u hj)
          have hA3 : 0 < o.bytes.length → ∃ ad, Ao = some ad ∧ wr.heap.size ≤ ad.block ∧ (Value.slice a2 aa.length c3).ownBlock ≠ some ad.block := fun h0 => by
            obtain ⟨ad, e1, e2⟩ := hA2 h0
            have hb := HN.out.below.size
            exact ⟨ad, e1, by omega, fun e => by have := (HA.out.1.all.lt _ e).2; omega⟩
          have ho4 := own_keep ho3 ((Keep.refl (fun _ => False) _).alloc O) (fun _ _ h => h)
          have hr4 := out_reads' _ Ao o.bytes.length ko o.n ((o.err : Nat) : Int) hsz3
          rw [← hO] at hr4
          have hsz4 : w.heap.size + 1 ≤ ((outW (w2.alloc O) (wr.heap.size + 1) (.slice Ao o.bytes.length ko) o.n ((o.err : Nat) : Int)).alloc O).heap.size := by
            have := hk3.size
            simp
            omega
          have hrm : Room (i + 1) := by unfold Room; have h1 := HC.out.2; have h2 := callsLen_ge cs; unfold Room at h1; omega
          have H3 := Lib.hid (And.intro hs3 (And.intro hk3 (And.intro hal3 (And.intro hrd3 (And.intro hA3 (And.intro ho4 (And.intro hr4 (And.intro hsz4 hrm)))))))); clear hs3 hk3 ho3 hal3 hrd3 hA3 ho4 hr4 hsz4 hrm hw3 hsz3 hO3 hO2 hkw hs2 hk2 hrd2 hA2
          subst hO
          simp only [outCells, outW] at H3 o0 o1 o2 f0 f1 f2 ⊢
          go_wp2_with (at_builtin; refine wpList_append_any _ rfl (.tmp 63) (.tmp 65) _ rfl (w.heap.size + 1) 36 i0 _ 3 40 Tryd.underlying24 HI.out.1 HI.out.2.1 HI.out.2.2.1 HI.out.2.2.2 rfl (by omega) (.slice a1 i c1) i flat rfl H3.out.2.2.2.2.2.1 _ _ 1 1 (outCells Ao o.bytes.length ko o.n ((o.err : Nat) : Int)).toList rfl H3.out.2.2.2.2.2.2.1 (out_one _ _ _ _ _) H3.out.2.2.2.2.2.2.2.2.len (H3.out.2.2.2.2.2.2.2.2.bytes 40 (by omega)) H3.out.2.2.2.2.2.2.2.1 ?_; intro v1 w5 hown1 hg1 hat1; obtain ⟨b1, k1, hv1⟩ := own_slice hown1; subst hv1; have H5 := Lib.hid (And.intro hown1 (And.intro hg1 hat1)); clear hown1 hg1 hat1)
          go_roundg (cs.length - (i + 1))
          case measure => have := Hk.out; omega
          case rel =>
            obtain ⟨hown1, hg1, hat1⟩ := H5.out
            have hfin := Hrun.out.trans Hst'.out
            have hstp := HA.out.1.step (a' := ⟨r', ao ++ [o], aa, af, false && tl⟩) (o := o) (Ao := Ao) (ko := ko) (ra' := .slice a2 aa.length c3) H3.out.1 (H3.out.2.1.mono (fun k e => .inl e)) H3.out.2.2.1 (fun k e => .inl e) rfl H3.out.2.2.2.1 H3.out.2.2.2.2.1 hown1 hg1 hat1
            refine ⟨i + 1, b1, k1, a2, c3, (flat ++ (outCells Ao o.bytes.length ko o.n ((o.err : Nat) : Int)).toList), hlt, ?_, rfl, ?_, ?_, ?_, ?_, rfl⟩
            · refine congrArg (Value.int .i64) ?_
              first | rfl | omega | (rw [IntWalk.wrap64_in _ (by omega)]; rfl)
            · rw [hfin]
            · rw [hfin]
            · rw [hfin]; rfl
            · rw [hfin]; exact hstp
        · go_wp2_with fail
          refine (isReading_is x Ab kb _ true hrd).mono ?_
          rintro e w1 ⟨rfl, hw1⟩
          have hin := anIn_mk wr x Ab kb hw1
          clear hw1 d0 d1 d2 d3
          have e0 : w1.cell? ⟨wr.heap.size, 0, none⟩ = some (.int .i64 x.kind) := hin.cal.cell 0
          have e1 : w1.cell? ⟨wr.heap.size, 1, none⟩ = some (.int .i64 x.n) := hin.cal.cell 1
          have e2 : w1.cell? ⟨wr.heap.size, 2, none⟩ = some (.int .u8 (x.delim.toNat : Int)) := hin.cal.cell 2
          have e3 : w1.cell? ⟨wr.heap.size, 3, none⟩ = some (.slice Ab x.bytes.length kb) := hin.cal.cell 3
          have HN := Lib.hid hin; clear hin
          go_wp2_with fail
          refine (scall31 w.heap.size A c ar x Ab kb w1 (HA.out.1.sr.below HN.out.below) ((rdB_iff x).1 hrd)).mono ?_
          rintro e w2 ⟨Ao, ko, rfl, hs2, hk2, hrd2, hA2⟩
          have hRw : w.heap.size < wr.heap.size := HA.out.1.sr.blk.lt
          have hO2 := HN.out.out.keep hk2 (show wr.heap.size + 1 ≠ w.heap.size by omega)
          have hkw : Keep (fun k => k = w.heap.size) wr w2 := (Keep.ofBelow HN.out.below _).trans hk2
          clear e0 e1 e2 e3
          generalize hro : (ar.call x).2.1 = o at *
          generalize hrt : (ar.call x).2.2 = tl at *
          generalize hrr : (ar.call x).1 = r' at *
          have Hst' := Lib.hid Hst.out; clear Hst
          clear hro hrt hrr
          obtain ⟨O, hO⟩ : ∃ O : Obj, O = .cells (outCells Ao o.bytes.length ko o.n ((o.err : Nat) : Int)) 36 := ⟨_, rfl⟩
          have hO3 := hO2.alloc O
          have o0 : (w2.alloc O).cell? ⟨wr.heap.size + 1, 0, none⟩ = some (.slice none 0 0) := hO3.cell 0
          have o1 : (w2.alloc O).cell? ⟨wr.heap.size + 1, 1, none⟩ = some (.int .i64 0) := hO3.cell 1
          have o2 : (w2.alloc O).cell? ⟨wr.heap.size + 1, 2, none⟩ = some (.int .i64 0) := hO3.cell 2
          have f0 := hO3.frozen 0
          have f1 := hO3.frozen 1
          have f2 := hO3.frozen 2
          have hw3 := outW_keep (w2.alloc O) (wr.heap.size + 1) (.slice Ao o.bytes.length ko) o.n ((o.err : Nat) : Int)
          have hsz3 : (outW (w2.alloc O) (wr.heap.size + 1) (.slice Ao o.bytes.length ko) o.n ((o.err : Nat) : Int)).heap.size = w2.heap.size + 1 := by rw [outW_size]; simp
          have hk3 : Keep (fun k => k = w.heap.size) wr (outW (w2.alloc O) (wr.heap.size + 1) (.slice Ao o.bytes.length ko) o.n ((o.err : Nat) : Int)) := (hkw.alloc O).then hw3 (fun k e => .inr (by omega))
          have hs3 : SRAt (outW (w2.alloc O) (wr.heap.size + 1) (.slice Ao o.bytes.length ko) o.n ((o.err : Nat) : Int)) w.heap.size A c r' := (hs2.below ((Below.refl _ _).alloc (Nat.le_refl _) O)).keep hw3 (fun k e => by omega)
          have ho3 := HA.out.1.owned (hk3.mono (fun k e => .inl e))
          have hal3 := HA.out.1.allKept hk3
          have hlt1 := HN.out.out.lt
          have hrd3 : Reads (outW (w2.alloc O) (wr.heap.size + 1) (.slice Ao o.bytes.length ko) o.n ((o.err : Nat) : Int)) (outW (w2.alloc O) (wr.heap.size + 1) (.slice Ao o.bytes.length ko) o.n ((o.err : Nat) : Int)).heap.size 1 Ao o.bytes.length (bvs o.bytes) := by
            refine ⟨hrd2.1, fun h0 => ?_⟩
            obtain ⟨ad, e1, e2⟩ := hA2 h0
            obtain ⟨ad', g1, g2, g3⟩ := hrd2.2 h0
            rw [e1] at g1
            injection g1 with g1
            subst g1
            refine ⟨ad, e1, by rw [hsz3]; omega, fun j u hj => ?_⟩
            refine (hw3.cell (p := ad.add j) (by rw [block_of_add]; simp; omega) (by rw [block_of_add]; omega)).trans ?_
            exact (World.cell?_alloc_lt w2 O (ad.add j) (by rw [block_of_add]; exact g2)).trans (g3 j u hj)
          have hA3 : 0 < o.bytes.length → ∃ ad, Ao = some ad ∧ wr.heap.size ≤ ad.block ∧ (Value.slice a2 aa.length c3).ownBlock ≠ some ad.block := fun h0 => by
            obtain ⟨ad, e1, e2⟩ := hA2 h0
            have hb := HN.out.below.size
            exact ⟨ad, e1, by omega, fun e => by have := (HA.out.1.all.lt _ e).2; omega⟩
          have ho4 := own_keep ho3 ((Keep.refl (fun _ => False) _).alloc O) (fun _ _ h => h)
          have hr4 := out_reads' _ Ao o.bytes.length ko o.n ((o.err : Nat) : Int) hsz3
          rw [← hO] at hr4
          have hsz4 : w.heap.size + 1 ≤ ((outW (w2.alloc O) (wr.heap.size + 1) (.slice Ao o.bytes.length ko) o.n ((o.err : Nat) : Int)).alloc O).heap.size := by
            have := hk3.size
            simp
            omega
          have hrm : Room (i + 1) := by unfold Room; have h1 := HC.out.2; have h2 := callsLen_ge cs; unfold Room at h1; omega
          have H3 := Lib.hid (And.intro hs3 (And.intro hk3 (And.intro hal3 (And.intro hrd3 (And.intro hA3 (And.intro ho4 (And.intro hr4 (And.intro hsz4 hrm)))))))); clear hs3 hk3 ho3 hal3 hrd3 hA3 ho4 hr4 hsz4 hrm hw3 hsz3 hO3 hO2 hkw hs2 hk2 hrd2 hA2
          subst hO
          simp only [outCells, outW] at H3 o0 o1 o2 f0 f1 f2 ⊢
          go_wp2_with (at_builtin; refine wpList_append_any _ rfl (.tmp 63) (.tmp 65) _ rfl (w.heap.size + 1) 36 i0 _ 3 40 Tryd.underlying24 HI.out.1 HI.out.2.1 HI.out.2.2.1 HI.out.2.2.2 rfl (by omega) (.slice a1 i c1) i flat rfl H3.out.2.2.2.2.2.1 _ _ 1 1 (outCells Ao o.bytes.length ko o.n ((o.err : Nat) : Int)).toList rfl H3.out.2.2.2.2.2.2.1 (out_one _ _ _ _ _) H3.out.2.2.2.2.2.2.2.2.len (H3.out.2.2.2.2.2.2.2.2.bytes 40 (by omega)) H3.out.2.2.2.2.2.2.2.1 ?_; intro v1 w5 hown1 hg1 hat1; obtain ⟨b1, k1, hv1⟩ := own_slice hown1; subst hv1; have H5 := Lib.hid (And.intro hown1 (And.intro hg1 hat1)); clear hown1 hg1 hat1)
          go_roundg (cs.length - (i + 1))
          case measure => have := Hk.out; omega
          case rel =>
            obtain ⟨hown1, hg1, hat1⟩ := H5.out
            have hfin := Hrun.out.trans Hst'.out
            have hstp := HA.out.1.step (a' := ⟨r', ao ++ [o], aa, af, true && tl⟩) (o := o) (Ao := Ao) (ko := ko) (ra' := .slice a2 aa.length c3) H3.out.1 (H3.out.2.1.mono (fun k e => .inl e)) H3.out.2.2.1 (fun k e => .inl e) rfl H3.out.2.2.2.1 H3.out.2.2.2.2.1 hown1 hg1 hat1
            refine ⟨i + 1, b1, k1, a2, c3, (flat ++ (outCells Ao o.bytes.length ko o.n ((o.err : Nat) : Int)).toList), hlt, ?_, rfl, ?_, ?_, ?_, ?_, rfl⟩
            · refine congrArg (Value.int .i64) ?_
              first | rfl | omega | (rw [IntWalk.wrap64_in _ (by omega)]; rfl)
            · rw [hfin]
            · rw [hfin]
            · rw [hfin]; rfl
            · rw [hfin]; exact hstp
      · have hrd : rdB x = false := by simpa using hrd
        by_cases hwb : wrB x = true
        · have hst := step_wr ⟨ar, ao, aa, af, at_⟩ x hrd hwb
          have Hst := Lib.hid hst; clear hst
          by_cases h12 : x.kind = 12
          · have hb12 : (x.kind == 12) = true := by simpa using h12
            have H12 := Lib.hid h12; clear h12
            go_wp2_with fail
            refine (isReading_is x Ab kb _ false hrd).mono ?_
            rintro e w1 ⟨rfl, hw1⟩
            have hin := anIn_mk wr x Ab kb hw1
            clear hw1 d0 d1 d2 d3
            have e0 : w1.cell? ⟨wr.heap.size, 0, none⟩ = some (.int .i64 x.kind) := hin.cal.cell 0
            have e1 : w1.cell? ⟨wr.heap.size, 1, none⟩ = some (.int .i64 x.n) := hin.cal.cell 1
            have e2 : w1.cell? ⟨wr.heap.size, 2, none⟩ = some (.int .u8 (x.delim.toNat : Int)) := hin.cal.cell 2
            have e3 : w1.cell? ⟨wr.heap.size, 3, none⟩ = some (.slice Ab x.bytes.length kb) := hin.cal.cell 3
            have HN := Lib.hid hin; clear hin
            go_wp2_with fail
            refine (isWriting_is x Ab kb _ true hwb).mono ?_
            rintro e v1 ⟨rfl, hv1⟩
            have hin := HN.out.next (w2 := v1) (by rw [hv1]; exact (Below.refl _ _).alloc (Nat.le_refl _) _)
            clear hv1 e0 e1 e2 e3
            have e0 : v1.cell? ⟨wr.heap.size, 0, none⟩ = some (.int .i64 x.kind) := hin.cal.cell 0
            have e1 : v1.cell? ⟨wr.heap.size, 1, none⟩ = some (.int .i64 x.n) := hin.cal.cell 1
            have e2 : v1.cell? ⟨wr.heap.size, 2, none⟩ = some (.int .u8 (x.delim.toNat : Int)) := hin.cal.cell 2
            have e3 : v1.cell? ⟨wr.heap.size, 3, none⟩ = some (.slice Ab x.bytes.length kb) := hin.cal.cell 3
            have HM := Lib.hid hin; clear hin HN
            have hwb0 := HA.out.1.below.size
            have hrv : Reads v1 w.heap.size 1 Ab x.bytes.length (bvs x.bytes) := HA.out.2.1.below (HM.out.below.mono hwb0)
            have HW := Lib.hid (written29 x Ab kb v1 w.heap.size (Nat.le_trans hwb0 HM.out.below.size) hrv); clear hrv
            go_wp2_with fail
            refine HW.out.mono ?_
            rintro e w2 ⟨A', k', rfl, hrd2, hb2, hA2⟩
            have hin2 := HM.out.next hb2
            obtain ⟨ob, oe⟩ := wrOut_shape x
            have hal := HA.out.2.2.2
            rw [Hst.out] at hal
            simp only [List.length_append] at hal
            have hv1s := HM.out.out.lt
            generalize hwx : wrote x = p at *
            obtain ⟨nn, hnn⟩ : ∃ nn, nn = (wrOut x).n := ⟨_, rfl⟩
            rw [← hnn]
            have hox : wrOut x = ⟨[], nn, 0⟩ := by
              rcases hh : wrOut x with ⟨q1, q2, q3⟩
              rw [hh] at ob oe hnn
              simp only at ob oe hnn
              rw [ob, oe, hnn]
            have hst2 := Hst.out
            rw [hox] at hst2
            have Hst2 := Lib.hid hst2; clear hst2 Hst hox hnn ob oe hwx HW
            have hRw : w.heap.size < wr.heap.size := HA.out.1.sr.blk.lt
            obtain ⟨O, hO⟩ : ∃ O : Obj, O = .cells (outCells none 0 0 nn 0) 36 := ⟨_, rfl⟩
            have hO3 := hin2.out.alloc O
            have o0 : (w2.alloc O).cell? ⟨wr.heap.size + 1, 0, none⟩ = some (.slice none 0 0) := hO3.cell 0
            have o1 : (w2.alloc O).cell? ⟨wr.heap.size + 1, 1, none⟩ = some (.int .i64 0) := hO3.cell 1
            have o2 : (w2.alloc O).cell? ⟨wr.heap.size + 1, 2, none⟩ = some (.int .i64 0) := hO3.cell 2
            have f0 := hO3.frozen 0
            have f1 := hO3.frozen 1
            have f2 := hO3.frozen 2
            have hw3 := outW_keep (w2.alloc O) (wr.heap.size + 1) (.slice none 0 0) nn 0
            have hsz3 : (outW (w2.alloc O) (wr.heap.size + 1) (.slice none 0 0) nn 0).heap.size = w2.heap.size + 1 := by rw [outW_size]; simp
            have hkw : Keep (fun k => k = w.heap.size) wr w2 := Keep.ofBelow hin2.below _
            have hk3 : Keep (fun k => k = w.heap.size) wr (outW (w2.alloc O) (wr.heap.size + 1) (.slice none 0 0) nn 0) := (hkw.alloc O).then hw3 (fun k e => .inr (by omega))
            have hs3 : SRAt (outW (w2.alloc O) (wr.heap.size + 1) (.slice none 0 0) nn 0) w.heap.size A c ar := (HA.out.1.sr.below (hin2.below.alloc hin2.below.size O)).keep hw3 (fun k e => by omega)
            have hBo := outW_blk hO3 rfl none 0 0 nn 0
            have hBc := (hin2.cal.alloc O).keep hw3 (show wr.heap.size ≠ wr.heap.size + 1 by omega)
            have hal3 := HA.out.1.allKept hk3
            have hrd3 : Reads (outW (w2.alloc O) (wr.heap.size + 1) (.slice none 0 0) nn 0) w2.heap.size 1 A' p.length (bvs p) := by
              refine ⟨hrd2.1, fun h0 => ?_⟩
              obtain ⟨ad, e1, e2⟩ := hA2 h0
              obtain ⟨ad', g1, g2, g3⟩ := hrd2.2 h0
              rw [e1] at g1
              injection g1 with g1
              subst g1
              refine ⟨ad, e1, g2, fun j u hj => ?_⟩
              refine (hw3.cell (p := ad.add j) (by rw [block_of_add]; simp; omega) (by rw [block_of_add]; omega)).trans ?_
              exact (World.cell?_alloc_lt w2 O (ad.add j) (by rw [block_of_add]; exact g2)).trans (g3 j u hj)
            have hsz : w.heap.size + 1 ≤ (outW (w2.alloc O) (wr.heap.size + 1) (.slice none 0 0) nn 0).heap.size := by rw [hsz3]; have := hkw.size; omega
            have hrmA : Room (aa.length + p.length) := hal
            have hrm : Room (i + 1) := by unfold Room; have h1 := HC.out.2; have h2 := callsLen_ge cs; unfold Room at h1; omega
            have H3 := Lib.hid (And.intro hs3 (And.intro hk3 (And.intro hBo (And.intro hBc (And.intro hal3 (And.intro hrd3 (And.intro hsz (And.intro hrmA (And.intro hrm (bvs_one p)))))))))); clear hs3 hk3 hBo hBc hal3 hrd3 hsz hrmA hrm hw3 hsz3 hO3 hkw hin2 hrd2 hb2 hA2 HM e0 e1 e2 e3 hal
            subst hO
            simp only [outCells, outW] at H3 o0 o1 o2 f0 f1 f2 ⊢
            go_wp2_with (first | (at_builtin; refine wpList_append_any _ rfl (.tmp 55) (.tmp 56) _ rfl (w.heap.size + 1) 5 j0 _ 1 1 Tryd.underlying25 HJ.out.1 HJ.out.2.1 HJ.out.2.2.1 HJ.out.2.2.2 rfl (by omega) (.slice a2 aa.length c3) aa.length (bvs aa) rfl H3.out.2.2.2.2.1 w2.heap.size A' p.length k' (bvs p) rfl H3.out.2.2.2.2.2.1 H3.out.2.2.2.2.2.2.2.2.2 H3.out.2.2.2.2.2.2.2.1.len (H3.out.2.2.2.2.2.2.2.1.bytes 1 (by omega)) H3.out.2.2.2.2.2.2.1 ?_; intro va w4 hown1 hg1 hat1; obtain ⟨b2, k2, hv1⟩ := own_slice hown1; subst hv1; have hz := an_write HA.out.1 H3.out.2.1 H3.out.1 H3.out.2.2.1 H3.out.2.2.2.1 hown1 hg1 hat1; have o0 : w4.cell? ⟨wr.heap.size + 1, 0, none⟩ = some (.slice none 0 0) := hz.2.2.1.cell 0; have o1 : w4.cell? ⟨wr.heap.size + 1, 1, none⟩ = some (.int .i64 nn) := hz.2.2.1.cell 1; have o2 : w4.cell? ⟨wr.heap.size + 1, 2, none⟩ = some (.int .i64 0) := hz.2.2.1.cell 2; have e0 : w4.cell? ⟨wr.heap.size, 0, none⟩ = some (.int .i64 x.kind) := hz.2.2.2.1.cell 0; have ho5 := own_keep hz.2.2.2.2.2 ((Keep.refl (fun _ => False) _).alloc (.cells (outCells none 0 0 nn 0) 36)) (fun _ _ h => h); have hr5 := out_reads w4 none 0 0 nn 0; have hs5 : w.heap.size + 1 ≤ (w4.alloc (.cells (outCells none 0 0 nn 0) 36)).heap.size := (by have := hz.1.size; simp; omega); have H4 := Lib.hid (And.intro hown1 (And.intro hg1 (And.intro hat1 (And.intro hz (And.intro ho5 (And.intro hr5 hs5)))))); clear hown1 hg1 hat1 hz ho5 hr5 hs5) | (at_builtin; refine wpList_append_any _ rfl (.tmp 63) (.tmp 65) _ rfl (w.heap.size + 1) 36 i0 _ 3 40 Tryd.underlying24 HI.out.1 HI.out.2.1 HI.out.2.2.1 HI.out.2.2.2 rfl (by omega) (.slice a1 i c1) i flat rfl H4.out.2.2.2.2.1 _ _ 1 1 (outCells none 0 0 nn 0).toList rfl H4.out.2.2.2.2.2.1 (out_one _ _ _ _ _) H3.out.2.2.2.2.2.2.2.2.1.len (H3.out.2.2.2.2.2.2.2.2.1.bytes 40 (by omega)) H4.out.2.2.2.2.2.2 ?_; intro v1 w5 hown1 hg1 hat1; obtain ⟨b1, k1, hv1⟩ := own_slice hown1; subst hv1; have H5 := Lib.hid (And.intro hown1 (And.intro hg1 hat1)); clear hown1 hg1 hat1))
            go_roundg (cs.length - (i + 1))
            case measure => have := Hk.out; omega
            case rel =>
              obtain ⟨hown1, hg1, hat1⟩ := H5.out
              obtain ⟨hownA, _, _, hz, _, _, _⟩ := H4.out
              have hfin := Hrun.out.trans Hst2.out
              rw [if_pos H12.out] at hfin
              have hallz : w4.ownsRow (w.heap.size + 1) 5 1 (.slice b2 (aa.length + p.length) k2) (aa ++ p).length (bvs (aa ++ p)) := by rw [List.length_append, bvs_append]; exact hownA
              have hstp := HA.out.1.step (a' := ⟨ar, ao ++ [⟨[], nn, 0⟩], aa ++ p, aa.length + p.length, at_⟩) (o := ⟨[], nn, 0⟩) (Ao := none) (ko := 0) (ra' := .slice b2 (aa.length + p.length) k2) hz.2.1 hz.1 hallz hz.2.2.2.2.1 rfl Reads.none_ (fun h => absurd h (by simp)) hown1 hg1 hat1
              refine ⟨i + 1, b1, k1, b2, k2, (flat ++ (outCells none 0 0 nn 0).toList), hlt, ?_, rfl, ?_, ?_, ?_, ?_, rfl⟩
              · refine congrArg (Value.int .i64) ?_
                first | rfl | omega | (rw [IntWalk.wrap64_in _ (by omega)]; rfl)
              · rw [hfin, List.length_append]
              · rw [hfin]; simp only [List.length_append]; rfl
              · rw [hfin]
              · rw [hfin, List.length_append]; exact hstp
          · have hb12 : (x.kind == 12) = false := by simpa using h12
            have H12 := Lib.hid h12; clear h12
            go_wp2_with fail
            refine (isReading_is x Ab kb _ false hrd).mono ?_
            rintro e w1 ⟨rfl, hw1⟩
            have hin := anIn_mk wr x Ab kb hw1
            clear hw1 d0 d1 d2 d3
            have e0 : w1.cell? ⟨wr.heap.size, 0, none⟩ = some (.int .i64 x.kind) := hin.cal.cell 0
            have e1 : w1.cell? ⟨wr.heap.size, 1, none⟩ = some (.int .i64 x.n) := hin.cal.cell 1
            have e2 : w1.cell? ⟨wr.heap.size, 2, none⟩ = some (.int .u8 (x.delim.toNat : Int)) := hin.cal.cell 2
            have e3 : w1.cell? ⟨wr.heap.size, 3, none⟩ = some (.slice Ab x.bytes.length kb) := hin.cal.cell 3
            have HN := Lib.hid hin; clear hin
            go_wp2_with fail
            refine (isWriting_is x Ab kb _ true hwb).mono ?_
            rintro e v1 ⟨rfl, hv1⟩
            have hin := HN.out.next (w2 := v1) (by rw [hv1]; exact (Below.refl _ _).alloc (Nat.le_refl _) _)
            clear hv1 e0 e1 e2 e3
            have e0 : v1.cell? ⟨wr.heap.size, 0, none⟩ = some (.int .i64 x.kind) := hin.cal.cell 0
            have e1 : v1.cell? ⟨wr.heap.size, 1, none⟩ = some (.int .i64 x.n) := hin.cal.cell 1
            have e2 : v1.cell? ⟨wr.heap.size, 2, none⟩ = some (.int .u8 (x.delim.toNat : Int)) := hin.cal.cell 2
            have e3 : v1.cell? ⟨wr.heap.size, 3, none⟩ = some (.slice Ab x.bytes.length kb) := hin.cal.cell 3
            have HM := Lib.hid hin; clear hin HN
            have hwb0 := HA.out.1.below.size
            have hrv : Reads v1 w.heap.size 1 Ab x.bytes.length (bvs x.bytes) := HA.out.2.1.below (HM.out.below.mono hwb0)
            have HW := Lib.hid (written29 x Ab kb v1 w.heap.size (Nat.le_trans hwb0 HM.out.below.size) hrv); clear hrv
            go_wp2_with fail
            refine HW.out.mono ?_
            rintro e w2 ⟨A', k', rfl, hrd2, hb2, hA2⟩
            have hin2 := HM.out.next hb2
            obtain ⟨ob, oe⟩ := wrOut_shape x
            have hal := HA.out.2.2.2
            rw [Hst.out] at hal
            simp only [List.length_append] at hal
            have hv1s := HM.out.out.lt
            generalize hwx : wrote x = p at *
            obtain ⟨nn, hnn⟩ : ∃ nn, nn = (wrOut x).n := ⟨_, rfl⟩
            rw [← hnn]
            have hox : wrOut x = ⟨[], nn, 0⟩ := by
              rcases hh : wrOut x with ⟨q1, q2, q3⟩
              rw [hh] at ob oe hnn
              simp only at ob oe hnn
              rw [ob, oe, hnn]
            have hst2 := Hst.out
            rw [hox] at hst2
            have Hst2 := Lib.hid hst2; clear hst2 Hst hox hnn ob oe hwx HW
            have hRw : w.heap.size < wr.heap.size := HA.out.1.sr.blk.lt
            obtain ⟨O, hO⟩ : ∃ O : Obj, O = .cells (outCells none 0 0 nn 0) 36 := ⟨_, rfl⟩
            have hO3 := hin2.out.alloc O
            have o0 : (w2.alloc O).cell? ⟨wr.heap.size + 1, 0, none⟩ = some (.slice none 0 0) := hO3.cell 0
            have o1 : (w2.alloc O).cell? ⟨wr.heap.size + 1, 1, none⟩ = some (.int .i64 0) := hO3.cell 1
            have o2 : (w2.alloc O).cell? ⟨wr.heap.size + 1, 2, none⟩ = some (.int .i64 0) := hO3.cell 2
            have f0 := hO3.frozen 0
            have f1 := hO3.frozen 1
            have f2 := hO3.frozen 2
            have hw3 := outW_keep (w2.alloc O) (wr.heap.size + 1) (.slice none 0 0) nn 0
            have hsz3 : (outW (w2.alloc O) (wr.heap.size + 1) (.slice none 0 0) nn 0).heap.size = w2.heap.size + 1 := by rw [outW_size]; simp
            have hkw : Keep (fun k => k = w.heap.size) wr w2 := Keep.ofBelow hin2.below _
            have hk3 : Keep (fun k => k = w.heap.size) wr (outW (w2.alloc O) (wr.heap.size + 1) (.slice none 0 0) nn 0) := (hkw.alloc O).then hw3 (fun k e => .inr (by omega))
            have hs3 : SRAt (outW (w2.alloc O) (wr.heap.size + 1) (.slice none 0 0) nn 0) w.heap.size A c ar := (HA.out.1.sr.below (hin2.below.alloc hin2.below.size O)).keep hw3 (fun k e => by omega)
            have hBo := outW_blk hO3 rfl none 0 0 nn 0
            have hBc := (hin2.cal.alloc O).keep hw3 (show wr.heap.size ≠ wr.heap.size + 1 by omega)
            have hal3 := HA.out.1.allKept hk3
            have hrd3 : Reads (outW (w2.alloc O) (wr.heap.size + 1) (.slice none 0 0) nn 0) w2.heap.size 1 A' p.length (bvs p) := by
              refine ⟨hrd2.1, fun h0 => ?_⟩
              obtain ⟨ad, e1, e2⟩ := hA2 h0
              obtain ⟨ad', g1, g2, g3⟩ := hrd2.2 h0
              rw [e1] at g1
              injection g1 with g1
              subst g1
              refine ⟨ad, e1, g2, fun j u hj => ?_⟩
              refine (hw3.cell (p := ad.add j) (by rw [block_of_add]; simp; omega) (by rw [block_of_add]; omega)).trans ?_
              exact (World.cell?_alloc_lt w2 O (ad.add j) (by rw [block_of_add]; exact g2)).trans (g3 j u hj)
            have hsz : w.heap.size + 1 ≤ (outW (w2.alloc O) (wr.heap.size + 1) (.slice none 0 0) nn 0).heap.size := by rw [hsz3]; have := hkw.size; omega
            have hrmA : Room (aa.length + p.length) := hal
            have hrm : Room (i + 1) := by unfold Room; have h1 := HC.out.2; have h2 := callsLen_ge cs; unfold Room at h1; omega
            have H3 := Lib.hid (And.intro hs3 (And.intro hk3 (And.intro hBo (And.intro hBc (And.intro hal3 (And.intro hrd3 (And.intro hsz (And.intro hrmA (And.intro hrm (bvs_one p)))))))))); clear hs3 hk3 hBo hBc hal3 hrd3 hsz hrmA hrm hw3 hsz3 hO3 hkw hin2 hrd2 hb2 hA2 HM e0 e1 e2 e3 hal
            subst hO
            simp only [outCells, outW] at H3 o0 o1 o2 f0 f1 f2 ⊢
            go_wp2_with (first | (at_builtin; refine wpList_append_any _ rfl (.tmp 55) (.tmp 56) _ rfl (w.heap.size + 1) 5 j0 _ 1 1 Tryd.underlying25 HJ.out.1 HJ.out.2.1 HJ.out.2.2.1 HJ.out.2.2.2 rfl (by omega) (.slice a2 aa.length c3) aa.length (bvs aa) rfl H3.out.2.2.2.2.1 w2.heap.size A' p.length k' (bvs p) rfl H3.out.2.2.2.2.2.1 H3.out.2.2.2.2.2.2.2.2.2 H3.out.2.2.2.2.2.2.2.1.len (H3.out.2.2.2.2.2.2.2.1.bytes 1 (by omega)) H3.out.2.2.2.2.2.2.1 ?_; intro va w4 hown1 hg1 hat1; obtain ⟨b2, k2, hv1⟩ := own_slice hown1; subst hv1; have hz := an_write HA.out.1 H3.out.2.1 H3.out.1 H3.out.2.2.1 H3.out.2.2.2.1 hown1 hg1 hat1; have o0 : w4.cell? ⟨wr.heap.size + 1, 0, none⟩ = some (.slice none 0 0) := hz.2.2.1.cell 0; have o1 : w4.cell? ⟨wr.heap.size + 1, 1, none⟩ = some (.int .i64 nn) := hz.2.2.1.cell 1; have o2 : w4.cell? ⟨wr.heap.size + 1, 2, none⟩ = some (.int .i64 0) := hz.2.2.1.cell 2; have e0 : w4.cell? ⟨wr.heap.size, 0, none⟩ = some (.int .i64 x.kind) := hz.2.2.2.1.cell 0; have ho5 := own_keep hz.2.2.2.2.2 ((Keep.refl (fun _ => False) _).alloc (.cells (outCells none 0 0 nn 0) 36)) (fun _ _ h => h); have hr5 := out_reads w4 none 0 0 nn 0; have hs5 : w.heap.size + 1 ≤ (w4.alloc (.cells (outCells none 0 0 nn 0) 36)).heap.size := (by have := hz.1.size; simp; omega); have H4 := Lib.hid (And.intro hown1 (And.intro hg1 (And.intro hat1 (And.intro hz (And.intro ho5 (And.intro hr5 hs5)))))); clear hown1 hg1 hat1 hz ho5 hr5 hs5) | (at_builtin; refine wpList_append_any _ rfl (.tmp 63) (.tmp 65) _ rfl (w.heap.size + 1) 36 i0 _ 3 40 Tryd.underlying24 HI.out.1 HI.out.2.1 HI.out.2.2.1 HI.out.2.2.2 rfl (by omega) (.slice a1 i c1) i flat rfl H4.out.2.2.2.2.1 _ _ 1 1 (outCells none 0 0 nn 0).toList rfl H4.out.2.2.2.2.2.1 (out_one _ _ _ _ _) H3.out.2.2.2.2.2.2.2.2.1.len (H3.out.2.2.2.2.2.2.2.2.1.bytes 40 (by omega)) H4.out.2.2.2.2.2.2 ?_; intro v1 w5 hown1 hg1 hat1; obtain ⟨b1, k1, hv1⟩ := own_slice hown1; subst hv1; have H5 := Lib.hid (And.intro hown1 (And.intro hg1 hat1)); clear hown1 hg1 hat1))
            go_roundg (cs.length - (i + 1))
            case measure => have := Hk.out; omega
            case rel =>
              obtain ⟨hown1, hg1, hat1⟩ := H5.out
              obtain ⟨hownA, _, _, hz, _, _, _⟩ := H4.out
              have hfin := Hrun.out.trans Hst2.out
              rw [if_neg H12.out] at hfin
              have hallz : w4.ownsRow (w.heap.size + 1) 5 1 (.slice b2 (aa.length + p.length) k2) (aa ++ p).length (bvs (aa ++ p)) := by rw [List.length_append, bvs_append]; exact hownA
              have hstp := HA.out.1.step (a' := ⟨ar, ao ++ [⟨[], nn, 0⟩], aa ++ p, af, at_⟩) (o := ⟨[], nn, 0⟩) (Ao := none) (ko := 0) (ra' := .slice b2 (aa.length + p.length) k2) hz.2.1 hz.1 hallz hz.2.2.2.2.1 rfl Reads.none_ (fun h => absurd h (by simp)) hown1 hg1 hat1
              refine ⟨i + 1, b1, k1, b2, k2, (flat ++ (outCells none 0 0 nn 0).toList), hlt, ?_, rfl, ?_, ?_, ?_, ?_, rfl⟩
              · refine congrArg (Value.int .i64) ?_
                first | rfl | omega | (rw [IntWalk.wrap64_in _ (by omega)]; rfl)
              · rw [hfin, List.length_append]
              · rw [hfin]
              · rw [hfin]
              · rw [hfin, List.length_append]; exact hstp
        · have hwb : wrB x = false := by simpa using hwb
          have hst := step_no ⟨ar, ao, aa, af, at_⟩ x hrd hwb
          have Hst := Lib.hid hst; clear hst
          go_wp2_with fail
          refine (isReading_is x Ab kb _ false hrd).mono ?_
          rintro e w1 ⟨rfl, hw1⟩
          have hin := anIn_mk wr x Ab kb hw1
          clear hw1 d0 d1 d2 d3
          have e0 : w1.cell? ⟨wr.heap.size, 0, none⟩ = some (.int .i64 x.kind) := hin.cal.cell 0
          have e1 : w1.cell? ⟨wr.heap.size, 1, none⟩ = some (.int .i64 x.n) := hin.cal.cell 1
          have e2 : w1.cell? ⟨wr.heap.size, 2, none⟩ = some (.int .u8 (x.delim.toNat : Int)) := hin.cal.cell 2
          have e3 : w1.cell? ⟨wr.heap.size, 3, none⟩ = some (.slice Ab x.bytes.length kb) := hin.cal.cell 3
          have o0 : w1.cell? ⟨wr.heap.size + 1, 0, none⟩ = some (.slice none 0 0) := hin.out.cell 0
          have HN := Lib.hid hin; clear hin
          go_wp2_with fail
          refine (isWriting_is x Ab kb _ false hwb).mono ?_
          rintro e v1 ⟨rfl, hv1⟩
          have hin := HN.out.next (w2 := v1) (by rw [hv1]; exact (Below.refl _ _).alloc (Nat.le_refl _) _)
          clear hv1 e0 e1 e2 e3 o0
          have o0 : v1.cell? ⟨wr.heap.size + 1, 0, none⟩ = some (.slice none 0 0) := hin.out.cell 0
          have o1 : v1.cell? ⟨wr.heap.size + 1, 1, none⟩ = some (.int .i64 0) := hin.out.cell 1
          have o2 : v1.cell? ⟨wr.heap.size + 1, 2, none⟩ = some (.int .i64 0) := hin.out.cell 2
          have f0 := hin.out.frozen 0
          have f1 := hin.out.frozen 1
          have f2 := hin.out.frozen 2
          have hkw : Keep (fun k => k = w.heap.size) wr v1 := Keep.ofBelow hin.below _
          have hs3 := HA.out.1.sr.below hin.below
          have hal3 := HA.out.1.allKept hkw
          have ho4 := own_keep (HA.out.1.owned (hkw.mono (fun k e => .inl e))) ((Keep.refl (fun _ => False) _).alloc (.cells (outCells none 0 0 0 0) 36)) (fun _ _ h => h)
          have hr4 := out_reads v1 none 0 0 0 0
          have hRw : w.heap.size < wr.heap.size := HA.out.1.sr.blk.lt
          have hsz4 : w.heap.size + 1 ≤ (v1.alloc (.cells (outCells none 0 0 0 0) 36)).heap.size := by have := hkw.size; simp; omega
          have hrm : Room (i + 1) := by unfold Room; have h1 := HC.out.2; have h2 := callsLen_ge cs; unfold Room at h1; omega
          have H3 := Lib.hid (And.intro hs3 (And.intro hkw (And.intro hal3 (And.intro ho4 (And.intro hr4 (And.intro hsz4 hrm)))))); clear hs3 hkw hal3 ho4 hr4 hsz4 hrm hin HN
          go_wp2_with (at_builtin; refine wpList_append_any _ rfl (.tmp 63) (.tmp 65) _ rfl (w.heap.size + 1) 36 i0 _ 3 40 Tryd.underlying24 HI.out.1 HI.out.2.1 HI.out.2.2.1 HI.out.2.2.2 rfl (by omega) (.slice a1 i c1) i flat rfl H3.out.2.2.2.1 _ _ 1 1 (outCells none 0 0 0 0).toList rfl H3.out.2.2.2.2.1 (out_one _ _ _ _ _) H3.out.2.2.2.2.2.2.len (H3.out.2.2.2.2.2.2.bytes 40 (by omega)) H3.out.2.2.2.2.2.1 ?_; intro u1 w5 hown1 hg1 hat1; obtain ⟨b1, k1, hv1⟩ := own_slice hown1; subst hv1; have H5 := Lib.hid (And.intro hown1 (And.intro hg1 hat1)); clear hown1 hg1 hat1)
          go_roundg (cs.length - (i + 1))
          case measure => have := Hk.out; omega
          case rel =>
            obtain ⟨hown1, hg1, hat1⟩ := H5.out
            have hfin := Hrun.out.trans Hst.out
            have hstp := HA.out.1.step (a' := ⟨ar, ao ++ [noOut], aa, af, at_⟩) (o := noOut) (Ao := none) (ko := 0) (ra' := .slice a2 aa.length c3) H3.out.1 (H3.out.2.1.mono (fun k e => .inl e)) H3.out.2.2.1 (fun k e => .inl e) rfl Reads.none_ (fun h => absurd h (by simp [noOut])) hown1 hg1 hat1
            refine ⟨i + 1, b1, k1, a2, c3, (flat ++ (outCells none 0 0 0 0).toList), hlt, ?_, rfl, ?_, ?_, ?_, ?_, rfl⟩
            · refine congrArg (Value.int .i64) ?_
              first | rfl | omega | (rw [IntWalk.wrap64_in _ (by omega)]; rfl)
            · rw [hfin]
            · rw [hfin]
            · rw [hfin]
            · rw [hfin]; exact hstp
    · have hd : decide (i < cs.length) = false := by simpa using hlt
      have hic2 : i = cs.length := by omega
      have hall : cs.take i = cs := List.take_of_length_le (by omega)
      rw [hall] at hA ⊢
      have HA := Lib.hid (And.intro hA hic2); clear hA hic2
      obtain ⟨a, ha⟩ : ∃ a, a = (as0 data).run cs := ⟨_, rfl⟩
      rw [← ha] at HA ⊢
      have Ha := Lib.hid ha; clear ha hall
      go_wp2_with fail
      refine bodyPost_ret (v := .tuple #[.slice a1 i c1, .slice a2 a.all.length c3, .int .i64 ((a.flushed : Nat) : Int), .bool a.told]) (by simp [results, Tryd.results21, go_sem]) rfl ?_
      obtain ⟨hA, hic2⟩ := HA.out
      unfold Ans21
      rw [← Ha.out]
      refine ⟨a1, c1, .slice a2 a.all.length c3, flat, by rw [hic2], ?_, hA.outs.keep (Keep.refl (fun _ => False) _) (fun _ h => h.elim) (fun _ h => h.elim), own_base hA.all (by omega), hA.below⟩
      rw [← hic2]
      exact own_base hA.own (by omega)
end Go.Proofs.YtancmlapnhccdaaDoor
