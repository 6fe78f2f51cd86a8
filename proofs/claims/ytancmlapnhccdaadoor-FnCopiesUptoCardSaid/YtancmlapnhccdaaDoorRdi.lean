/- Joined by merge.py out of: Idx, Rde. -/
import Derived.Test.YtancmlapnhccdaaDoorRmm
import Derived.Test.YtancmlapnhccdaaDoorEnv
import Derived.Shelf.Bytes.SlIndexAt
import Derived.Lib.IndexLaws
import Derived.Test.YtancmlapnhccdaaDoorRdr

/- bytes.IndexByte: where a byte stands first. -/
namespace Go.Proofs.YtancmlapnhccdaaDoor
open Go.RowKit

/-- where a byte stands first, or -1 -/
def idxI (b : UInt8) (l : List UInt8) : Int := if b ∈ l then (l.idxOf b : Int) else -1
theorem indexByte_idx (b : UInt8) (l : List UInt8) : Lib.indexByte l b = idxI b l := by
  induction l with
  | nil => simp [Lib.indexByte, idxI]
  | cons x l ih =>
    simp only [Lib.indexByte]
    by_cases h : x = b
    · subst h; simp [idxI]
    · have h' : ¬ b = x := fun e => h e.symm
      rw [if_neg (by simpa using h), ih]
      by_cases hm : b ∈ l
      · have e : (x :: l).idxOf b = l.idxOf b + 1 := by rw [List.idxOf_cons, show (x == b) = false by simpa using h]; rfl
        have hne : ¬ ((l.idxOf b : Int) == -1) = true := by simp
        simp only [idxI, hm, List.mem_cons, or_true, if_true, e]
        rw [if_neg hne]
        omega
      · simp [idxI, hm, h']

def nums (l : List UInt8) : List Int := l.map fun b => (b.toNat : Int)
theorem bytesOf_nums (l : List UInt8) : Lib.bytesOf (nums l) = l := by
  unfold Lib.bytesOf nums
  rw [List.map_map]
  conv => rhs; rw [← List.map_id l]
  apply List.map_congr_left
  intro b _
  simp

set_option maxRecDepth 1000000 in
set_option maxHeartbeats 2000000 in
theorem indexByte79 (B : Nat) (a : Addr) (n c : Nat) (xs : List UInt8) (b : UInt8) (w : World) (hn : xs.length = n) (h : Reads w B 1 (some a) n (bvs xs)) :
    Calls Tryd.prog 79 #[.slice (some a) n c, .int .u8 (b.toNat : Int)] w fun e w' => e = .returned (.int .i64 (idxI b xs)) ∧ w' = w := by
  have hc : ∀ i, i < n → w.cell? (a.add i) = some (.int .u8 ((nums xs).getD i 0)) := by
    intro i hi
    obtain ⟨ad, e, _, hcell⟩ := h.2 (by omega)
    injection e with e
    subst e
    refine hcell i _ ?_
    rw [bvs_get, List.getElem?_eq_getElem (by omega)]
    simp [nums, bv, List.getD, List.getElem?_eq_getElem (show i < xs.length by omega)]
  have hrun := fun w (hc : ∀ i, i < n → World.cell? w (a.add i) = some (.int .u8 ((nums xs).getD i 0))) => Lib.run_indexByteAt (P := Tryd.prog) w a n c (nums xs) (by simp [nums, hn]) hc (b.toNat : Int)
  have he : Lib.indexByte (Lib.bytesOf (nums xs)) ((b.toNat : Int)).toNat.toUInt8 = idxI b xs := by
    rw [bytesOf_nums, Int.toNat_natCast, indexByte_idx]
    simp
  rw [he] at hrun
  have H := Lib.hid (And.intro hrun hc); clear hrun hc h he
  go_enter Tryd.func79, Tryd.ntmps79
  go_wp2
  rw [run_callFunc_extern Tryd.func82 (by kernel_rfl) (by kernel_rfl) (by kernel_rfl) (e := Extern.BytealgIndexByte.indexByte) (by kernel_rfl), H.out.1 _ H.out.2]
  simp only [Result.andThen]
  rw [Oper.upon_value]
  go_wp2
  go_ret
  exact ⟨rfl, rfl⟩
end Go.Proofs.YtancmlapnhccdaaDoor

/- bufio.Reader: ReadSlice. -/
namespace Go.Proofs.YtancmlapnhccdaaDoor
open Go.RowKit

/-- a call that only draws, in a world that has drawn already -/
theorem drawsMore {f : FuncId} {args : Array Value} {w : World} {v : Value} (a n : Nat) (h : Calls Tryd.prog f args (w.drewN (a + n)) fun e w' => e = .returned v ∧ ∃ m, w' = (w.drewN (a + n)).drewN m) :
    Calls Tryd.prog f args (w.drewN (a + n)) fun e w' => e = .returned v ∧ ∃ m, w' = w.drewN (a + m) := by
  refine h.mono ?_
  rintro e w' ⟨rfl, m, rfl⟩
  exact ⟨rfl, n + m, by rw [World.drewN_drewN, Nat.add_assoc]⟩

/-- at the head of ReadSlice's loop: j bytes have been searched -/
def SliceRel (E : Nat → Addr) (L : RL) (d : UInt8) (s0 : RS) (w : World) (k : Nat) (t5 t6 : Value) (wr : World) : Prop :=
  ∃ s' j, t5 = .nilIface ∧ t6 = .int .i64 ((j : Nat) : Int) ∧ RdrAt wr E L s' ∧ Keep (rdX L) w wr ∧ fillW (cSlice d) s' = fillW (cSlice d) s0 ∧ k = meas s' ∧ j ≤ s'.w - s'.r ∧ ¬ d ∈ (avail s').take j

theorem mem_drop_of {d : UInt8} {l : List UInt8} {j : Nat} (h : ¬ d ∈ l.take j) : (d ∈ l.drop j ↔ d ∈ l) ∧ (d ∈ l → l.idxOf d = min j l.length + (l.drop j).idxOf d) := by
  have e := List.take_append_drop j l
  constructor
  · constructor
    · exact fun hm => List.mem_of_mem_drop hm
    · intro hm
      rw [← e] at hm
      rcases List.mem_append.1 hm with q | q
      · exact absurd q h
      · exact q
  · intro _
    conv => lhs; rw [← e]
    rw [List.idxOf_append, if_neg h, List.length_take]
    omega
/-- what has been searched stays in front -/
theorem fill_take {s : RS} (h : s.Ok) (hn : s.w - s.r < s.buf.length) (j : Nat) (hj : j ≤ s.w - s.r) : (avail (fillM s)).take j = (avail s).take j ∧ j ≤ (fillM s).w - (fillM s).r := by
  have hf := FillsTo.fill h hn
  have h1 := avail_length s h
  have h2 := avail_length _ hf.ok
  have hm := hf.more
  have hl := hf.left
  rw [left_split, left_split] at hl
  refine ⟨?_, by omega⟩
  have e := congrArg (List.take j) hl
  rw [List.take_append_of_le_length (by omega), List.take_append_of_le_length (by omega)] at e
  exact e

theorem avail_byte {s : RS} (i : Nat) (hi : i < s.w - s.r) : (avail s).getD i 0 = byteAt s (s.r + i) := by
  simp only [avail, byteAt, List.getD, List.getElem?_take, List.getElem?_drop]
  rw [if_pos hi]
theorem lastM_take {s : RS} (t : RS) (h : s.Ok) (m : Nat) (hm : m + 1 ≤ s.w - s.r) : lastM ((avail s).take (m + 1)) t = { t with lb := ((byteAt s (s.r + m)).toNat : Int), lr := -1 } := by
  have hal := avail_length s h
  have hl : ((avail s).take (m + 1)).length = m + 1 := by rw [List.length_take]; omega
  have e : ((avail s).take (m + 1)).getLast? = some (byteAt s (s.r + m)) := by
    rw [List.getLast?_eq_getElem?, hl, Nat.add_sub_cancel, List.getElem?_take, if_pos (by omega), ← avail_byte m (by omega)]
    simp [List.getD, List.getElem?_eq_getElem (show m < (avail s).length by omega)]
  simp only [lastM, e]
/-- a part of the buffer whose bytes have been read -/
theorem RdrAt.partRead {w : World} {E : Nat → Addr} {L : RL} {s : RS} {A : Option Addr} {t : RS} (h : RdrAt w E L t) (hs : s.Ok) (hb : t.buf = s.buf) (k : Nat) (hk : k ≤ s.w - s.r) (hA : 0 < k → A = some ⟨L.RB, s.r, none⟩) : Reads w w.heap.size 1 A ((avail s).take k).length (bvs ((avail s).take k)) := by
  have hal := avail_length s hs
  have hwn := hs.wn
  have hrw := hs.rw
  have hl : ((avail s).take k).length = k := by rw [List.length_take]; omega
  rw [hl]
  have hbuf := h.buf
  rw [hb] at hbuf
  have := Reads.of_blk (A := A) hbuf s.r k (by rw [bvs_length]; omega) hA
  rw [← bvs_drop, ← bvs_take] at this
  have e : (avail s).take k = (s.buf.drop s.r).take k := by
    unfold avail; rw [List.take_take, Nat.min_eq_left hk]
  rw [e]
  exact this.more (by have := h.buf.lt; omega)
/-- ReadSlice gives k bytes of the buffer, that are read now -/
theorem Peeked.read {E : Nat → Addr} {L : RL} {s t : RS} {x : RS × List UInt8 × Nat} {w wq : World} {k c err : Nat} {A : Option Addr} {v : Value} {e : Ending} (h : RdGave E L .nilIface t w (.returned .nilIface) wq) (hs : s.Ok) (hb : t.buf = s.buf) (hkm : k ≤ s.w - s.r) (hA : 0 < k → A = some ⟨L.RB, s.r, none⟩)
    (hx : x = (t, (avail s).take k, err)) (hv : v = errV E err) (he : e = .returned (.tuple #[.slice A k c, v])) (hS : ∃ ad, A = some ad ∧ ad.block = L.RB) : Peeked E L x w e wq := by
  have hl : ((avail s).take k).length = k := by rw [List.length_take, avail_length s hs]; omega
  subst hx hv he
  have := h.2.1.partRead hs hb k hkm hA
  rw [hl] at this
  refine ⟨A, c, ?_, ?_, h.2.1, h.2.2, fun _ => by
    obtain ⟨ad, e1, e2⟩ := hS
    exact ⟨ad, e1, by rw [e2]; exact h.2.1.buf.lt⟩⟩
  · simp only [hl]
  · simp only [hl]; exact this

set_option maxRecDepth 100000 in
set_option maxHeartbeats 4000000 in
theorem readSlice74 (E : Nat → Addr) (L : RL) (s : RS) (d : UInt8) (w : World) (h : RdrAt w E L s) :
    Calls Tryd.prog 74 #[.pointer (some ⟨L.R, 0, none⟩), .int .u8 (d.toNat : Int)] w (Peeked E L (sliceM d s) w) := by
  have H1 := Lib.hid h; clear h
  obtain ⟨x, hx⟩ : ∃ x, x = sliceM d s := ⟨_, rfl⟩
  rw [← hx]
  have Hx := Lib.hid hx; clear hx
  go_enter Tryd.func74, Tryd.ntmps74
  go_wp2_with fail
  go_loopg [5, 6] (meas s) (fun k t5 t6 wr => SliceRel E L d s w k t5 t6 wr)
  case atStart => exact ⟨s, 0, rfl, rfl, H1.out, Keep.refl _ _, rfl, rfl, Nat.zero_le _, by simp⟩
  case round =>
    obtain ⟨s', j, rfl, rfl, hr, hk, hf, hm, hj, hd⟩ := hrel
    obtain ⟨c0, c1, c2, c3, c4, c5, c6⟩ := hr.cells
    have H := Lib.hid (And.intro hr (And.intro hk (And.intro hf (And.intro hm (And.intro hj hd))))); clear hk hf hm hd
    have hrw := hr.ok.rw
    have hwn := hr.ok.wn
    have hhi := hr.ok.hi
    have hal := avail_length s' hr.ok
    have e4 := hr.env.at_ 4 (by omega)
    have hwa := wrapA s'.r j (by omega)
    obtain ⟨q, hq⟩ : ∃ q, q = s'.r + j := ⟨_, rfl⟩
    rw [← hq] at hwa
    have hsl := slice_lh L.RB s'.buf.length q s'.w (by omega) hwn
    have hdr : (s'.buf.drop q).take (s'.w - q) = (avail s').drop j := by
      unfold avail; rw [List.drop_take, List.drop_drop, ← hq]; congr 1; omega
    have hlen : ((avail s').drop j).length = s'.w - q := by rw [List.length_drop]; omega
    have hrd := Reads.of_blk (A := cutA L.RB s'.buf.length q) hr.buf q (s'.w - q) (by rw [bvs_length]; omega) (fun h0 => cutA_pos (by omega))
    rw [← bvs_drop, ← bvs_take, hdr] at hrd
    obtain ⟨ca, hca⟩ : ∃ ca, cutA L.RB s'.buf.length q = some ca := by unfold cutA; split <;> exact ⟨_, rfl⟩
    rw [hca] at hsl hrd
    have hix := fun k => indexByte79 (L.RB + 1) ca (s'.w - q) (s'.buf.length - q) ((avail s').drop j) d (wr.drewN k) hlen (hrd.drewN k)
    have HI := Lib.hid hix; clear hix hrd hca
    have Hq := Lib.hid hq; clear hq
    have hr0 := hr; clear hr
    obtain ⟨ix, hix⟩ : ∃ ix, ix = idxI d ((avail s').drop j) := ⟨_, rfl⟩
    rw [← hix] at HI
    have hdm := mem_drop_of H.out.2.2.2.2.2
    have g2 := hr0.free 2
    have g5 := hr0.free 5
    have g6 := hr0.free 6
    have n1 : ¬ L.R = L.RB := hr0.neRB
    have n2 : ¬ L.RB = L.R := Ne.symm hr0.neRB
    have hmin : min j (avail s').length = j := by omega
    by_cases hmem : d ∈ avail s'
    · -- the delimiter is there
      obtain ⟨i0, hi0⟩ : ∃ i0, i0 = ((avail s').drop j).idxOf d := ⟨_, rfl⟩
      have hixv : ix = (i0 : Int) := by rw [hix, idxI, if_pos (hdm.1.2 hmem), hi0]
      have hp := hdm.2 hmem
      have hpl := List.idxOf_lt_length_iff.2 hmem
      rw [hmin, ← hi0] at hp
      obtain ⟨m, hmd⟩ : ∃ m, m = i0 + j := ⟨_, rfl⟩
      have hml : m + 1 ≤ s'.w - s'.r := by omega
      have hby : byteAt s' (s'.r + m) = d := by
        rw [← avail_byte m (by omega)]
        have e : (avail s').idxOf d = m := by omega
        rw [← e]
        simp [List.getD, List.getElem?_eq_getElem hpl]
      have cb := hr0.byte (s'.r + m) (by omega)
      rw [hby] at cb
      unfold bv at cb
      have hwb : IntKind.i64.wrap ((s'.r : Int) + ((i0 : Int) + (j : Int))) = ((s'.r + m : Nat) : Int) := by
        rw [IntWalk.i64_in _ (by omega)]; omega
      obtain ⟨v1, hv1⟩ : ∃ v1, v1 = s'.r + m := ⟨_, rfl⟩
      rw [← hv1] at hwb
      obtain ⟨v2, hv2⟩ : ∃ v2, v2 = v1 + 1 := ⟨_, rfl⟩
      have hwc : IntKind.i64.wrap ((v1 : Int) + 1) = (v2 : Int) := by
        rw [IntWalk.i64_in _ (by omega)]; omega
      have hsl2 := slice_lh L.RB s'.buf.length s'.r v2 (by omega) (by omega)
      rw [cutA_pos (show s'.r < s'.buf.length by omega), show v2 - s'.r = m + 1 by omega] at hsl2
      have hd1 := d.toNat_lt
      have hij : i0 + j ≤ 255 := by omega
      rw [hixv] at HI
      have HM := Lib.hid (And.intro hmem (And.intro hp (And.intro hmd (And.intro hv1 (And.intro hby hv2))))); clear hmem hp hmd hv1 hv2 hby hpl hi0 hdm hix hmin hixv hdr hlen hr0 hal
      have hmr : m ≤ 255 := by omega
      have hm1 : (0 : Int) ≤ (m : Int) := by omega
      go_wp2_with fail
      go_quiet (first | (go_at_call 79; exact Calls.quiet_of_same (HI.out _)))
      go_wp2_with fail
      go_quiet (fail)
      go_wp2_with fail
      go_ret2
      obtain ⟨hmem, hp, hmd, hv1, hby, hv2⟩ := HM.out
      have hl : ((avail s').take (m + 1)).length = m + 1 := by rw [List.length_take, avail_length s' H.out.1.ok]; omega
      have hx : x = ({ s' with r := s'.r + (m + 1), lb := (d.toNat : Int), lr := -1 }, (avail s').take (m + 1), 0) := by
        rw [Hx.out]
        show sliceE d (fillW (cSlice d) s) = _
        rw [← H.out.2.2.1, fillW_done s' (by simp [cSlice, hmem])]
        simp only [sliceE, if_pos hmem]
        rw [show (avail s').idxOf d + 1 = m + 1 by omega, hl, lastM_take _ H.out.1.ok m hml, hby]
      refine Peeked.read (s := s') (t := { s' with r := s'.r + (m + 1), lb := (d.toNat : Int), lr := -1 }) (err := 0) (RdGave.st3 (H.out.1.drewN _) (H.out.2.1.drewN _) rfl ?_ rfl rfl ?_) H.out.1.ok rfl hml (fun _ => rfl) hx rfl rfl ⟨_, rfl, rfl⟩
      · simp only [rdCells]
        rw [show ((s'.r + (m + 1) : Nat) : Int) = (s'.r : Int) + ((i0 : Int) + (j : Int) + 1) by omega]
        rfl
      · exact H.out.1.ok.put (by omega) hwn (by omega) (by omega) (by omega) (by omega)
    · have hixv : ix = -1 := by rw [hix, idxI, if_neg (fun q => hmem (hdm.1.1 q))]
      rw [hixv] at HI
      have hslE := slice_lh L.RB s'.buf.length s'.r s'.w hrw hwn
      rcases he : s'.eof with _ | _
      · have c4' : wr.cell? ⟨L.R, 4, none⟩ = some .nilIface := by rw [c4, he]; rfl
        have hws := wrapS s'.w s'.r hrw (by omega)
        have hbf := fun k => (buffered67 E L s' (wr.drewN k) (hr0.drewN k))
        have Hbf := Lib.hid hbf; clear hbf
        obtain ⟨m, hm⟩ : ∃ m, m = s'.w - s'.r := ⟨_, rfl⟩
        rw [← hm] at hws Hbf
        by_cases hfull : m < s'.buf.length
        · have d2 : decide (s'.buf.length ≤ m) = false := by simpa using hfull
          have HM := Lib.hid (And.intro hmem (And.intro he hm)); clear hmem he hm hdm hix hmin hixv hdr hlen hr0 hal c4
          go_wp2_with fail
          go_quiet (first | (go_at_call 79; exact Calls.quiet_of_same (HI.out _)))
          go_wp2_with fail
          go_quiet (first | (go_at_call 67; exact drawsMore _ _ (Hbf.out _)))
          go_wp2_with fail
          go_quiet (fail)
          go_wp2_with fail
          refine (fill60 E L s' _ (H.out.1.drewN _) (by rw [← HM.out.2.2]; exact hfull)).mono ?_
          rintro e w1 ⟨rfl, hr1, hk1⟩
          have H2 := Lib.hid (And.intro hr1 hk1); clear hr1 hk1
          go_wp2_with fail
          go_roundg (meas (fillM s'))
          case measure => have := meas_fill s' H.out.1.ok HM.out.2.1 (by rw [← HM.out.2.2]; exact hfull); have := H.out.2.2.2.1; omega
          case rel =>
            have hft := fill_take H.out.1.ok (by rw [← HM.out.2.2]; exact hfull) m (Nat.le_of_eq HM.out.2.2)
            refine ⟨fillM s', m, rfl, rfl, H2.out.1, (H.out.2.1.drewN _).trans H2.out.2, ?_, rfl, hft.2, ?_⟩
            · rw [← H.out.2.2.1, fillW_more (cSlice_asks d) s' H.out.1.ok]
              have hq := HM.out.2.2 ▸ hfull
              simp [cSlice, HM.out.1, HM.out.2.1, hq]
            · rw [hft.1]
              intro hq
              exact HM.out.1 (List.mem_of_mem_take hq)
        · have d2 : decide (s'.buf.length ≤ m) = true := by simp; omega
          have hlo := hr0.ok.lo
          have cb := hr0.byte (s'.buf.length - 1) (by omega)
          unfold bv at cb
          have hb1 := (byteAt s' (s'.buf.length - 1)).toNat_lt
          have i1 : (1 : Int) ≤ (s'.buf.length : Int) := by omega
          obtain ⟨b, hb⟩ : ∃ b, b = byteAt s' (s'.buf.length - 1) := ⟨_, rfl⟩
          rw [← hb] at cb hb1
          have HM := Lib.hid (And.intro hmem (And.intro he (And.intro hm hb))); clear hmem he hm hb hdm hix hmin hixv hdr hlen hr0 hal c4
          go_wp2_with fail
          go_quiet (first | (go_at_call 79; exact Calls.quiet_of_same (HI.out _)))
          go_wp2_with fail
          go_quiet (first | (go_at_call 67; exact drawsMore _ _ (Hbf.out _)))
          go_wp2_with fail
          go_ret2
          obtain ⟨hmem, he, hm, hb⟩ := HM.out
          have hr0 : s'.r = 0 := by omega
          have hw0 : s'.w = s'.buf.length := by omega
          have hal := avail_length s' H.out.1.ok
          have htk : (avail s').take (s'.buf.length - 1 + 1) = avail s' := List.take_of_length_le (by omega)
          have hx : x = ({ s' with r := s'.w, lb := (b.toNat : Int), lr := -1 }, (avail s').take s'.buf.length, 5) := by
            rw [Hx.out]
            show sliceE d (fillW (cSlice d) s) = _
            have hnf : ¬ s'.w - s'.r < s'.buf.length := by rw [← hm]; exact hfull
            rw [← H.out.2.2.1, fillW_done s' (by simp [cSlice, hmem, hnf])]
            rw [sliceE, if_neg hmem, if_neg (by rw [he]; simp)]
            have hlt := lastM_take { s' with r := s'.w } H.out.1.ok (s'.buf.length - 1) (by omega)
            rw [htk] at hlt
            rw [hlt, List.take_of_length_le (by omega), hb, hr0, Nat.zero_add]
          refine Peeked.read (s := s') (t := { s' with r := s'.w, lb := (b.toNat : Int), lr := -1 }) (err := 5) (RdGave.st3 (H.out.1.drewN _) (H.out.2.1.drewN _) rfl rfl rfl rfl ?_) H.out.1.ok rfl (by omega) (fun _ => by rw [hr0]) hx rfl rfl ⟨_, rfl, rfl⟩
          exact H.out.1.ok.put (Nat.le_refl _) hwn (by omega) (by omega) (by omega) (by omega)
      · have c4' : wr.cell? ⟨L.R, 4, none⟩ = some (sent (E 0)) := by rw [c4, he]; rfl
        by_cases hemp : s'.w - s'.r = 0
        · rw [hemp] at hslE
          have HM := Lib.hid (And.intro hmem (And.intro he hemp)); clear hmem he hemp hdm hix hmin hixv hdr hlen hr0 hal c4
          go_wp2_with fail
          go_quiet (first | (go_at_call 79; exact Calls.quiet_of_same (HI.out _)))
          go_wp2_with fail
          go_quiet (fail)
          go_wp2_with fail
          refine (readErr61 E L { s' with r := s'.w } _ (RdGave.st1 (v := .nilIface) (w := w) (e := .returned .nilIface) (s' := { s' with r := s'.w }) (H.out.1.drewN _) (H.out.2.1.drewN _) rfl rfl rfl rfl (H.out.1.ok.put (Nat.le_refl _) hwn H.out.1.ok.lb0 H.out.1.ok.lb1 H.out.1.ok.lr0 H.out.1.ok.lr1)).2.1).mono ?_
          rintro e w4 ⟨rfl, hr4, hk4⟩
          have H4 := Lib.hid (And.intro hr4 hk4); clear hr4 hk4
          go_wp2_with fail
          go_ret2
          obtain ⟨hmem, he, hemp⟩ := HM.out
          have hav : avail s' = [] := List.eq_nil_of_length_eq_zero (by rw [avail_length s' H.out.1.ok]; exact hemp)
          have hx : x = ({ s' with r := s'.w, eof := false }, (avail s').take 0, 1) := by
            rw [Hx.out]
            show sliceE d (fillW (cSlice d) s) = _
            rw [← H.out.2.2.1, fillW_done s' (by simp [cSlice, he])]
            rw [sliceE, if_neg hmem, if_pos he, hav]
            rfl
          refine Peeked.read (s := s') (t := { s' with r := s'.w, eof := false }) (A := cutA L.RB s'.buf.length s'.r) (c := s'.buf.length - s'.r) (err := 1) ⟨rfl, H4.out.1, ?_⟩ H.out.1.ok rfl (Nat.zero_le _) (fun h => absurd h (by omega)) hx rfl ?_ (by unfold cutA; split <;> exact ⟨_, rfl, rfl⟩)
          · exact (RdGave.st1 (v := .nilIface) (e := .returned .nilIface) (s' := { s' with r := s'.w }) (H.out.1.drewN _) (H.out.2.1.drewN _) rfl rfl rfl rfl (H.out.1.ok.put (Nat.le_refl _) hwn H.out.1.ok.lb0 H.out.1.ok.lb1 H.out.1.ok.lr0 H.out.1.ok.lr1)).2.2.trans H4.out.2
          · rw [he]; rfl
        · obtain ⟨m, hm⟩ : ∃ m, s'.w - s'.r = m + 1 := ⟨s'.w - s'.r - 1, by omega⟩
          rw [hm, cutA_pos (show s'.r < s'.buf.length by omega)] at hslE
          have hmr : m ≤ 255 := by omega
          obtain ⟨b, hb⟩ : ∃ b, b = byteAt s' (s'.r + m) := ⟨_, rfl⟩
          have hb1 := b.toNat_lt
          have HM := Lib.hid (And.intro hmem (And.intro he (And.intro hm hb))); clear hmem he hemp hm hb hdm hix hmin hixv hdr hlen hr0 hal c4
          go_wp2_with fail
          go_quiet (first | (go_at_call 79; exact Calls.quiet_of_same (HI.out _)))
          go_wp2_with fail
          go_quiet (fail)
          go_wp2_with fail
          refine (readErr61 E L { s' with r := s'.w } _ (RdGave.st1 (v := .nilIface) (w := w) (e := .returned .nilIface) (s' := { s' with r := s'.w }) (H.out.1.drewN _) (H.out.2.1.drewN _) rfl rfl rfl rfl (H.out.1.ok.put (Nat.le_refl _) hwn H.out.1.ok.lb0 H.out.1.ok.lb1 H.out.1.ok.lr0 H.out.1.ok.lr1)).2.1).mono ?_
          rintro e w4 ⟨rfl, hr4, hk4⟩
          have cb : w4.cell? ⟨L.RB, s'.r + m, none⟩ = some (.int .u8 (b.toNat : Int)) := by
            have := hr4.byte (s'.r + m) (by have := HM.out.2.2.1; show _ < s'.buf.length; omega)
            rw [this, HM.out.2.2.2]; rfl
          have k5 := hr4.cells.2.2.2.2.2.1
          have k6 := hr4.cells.2.2.2.2.2.2
          have q5 := hr4.free 5
          have q6 := hr4.free 6
          have hee : eofV E ({ s' with r := s'.w } : RS).eof = sent (E 0) := by show eofV E s'.eof = _; rw [HM.out.2.1]; rfl
          rw [hee]
          have H4 := Lib.hid (And.intro hr4 hk4); clear hr4 hk4 hee
          go_wp2_with fail
          go_ret2
          obtain ⟨hmem, he, hm, hb⟩ := HM.out
          have hal := avail_length s' H.out.1.ok
          have htk : (avail s').take (m + 1) = avail s' := List.take_of_length_le (by omega)
          have hx : x = ({ s' with r := s'.w, eof := false, lb := (b.toNat : Int), lr := -1 }, (avail s').take (m + 1), 1) := by
            rw [Hx.out]
            show sliceE d (fillW (cSlice d) s) = _
            rw [← H.out.2.2.1, fillW_done s' (by simp [cSlice, he])]
            simp only [sliceE, if_neg hmem, he, if_true]
            have hlt := lastM_take { s' with r := s'.w, eof := false } H.out.1.ok m (by omega)
            rw [htk] at hlt
            rw [hlt, htk, hb]
          refine Peeked.read (s := s') (t := { s' with r := s'.w, eof := false, lb := (b.toNat : Int), lr := -1 }) (err := 1) (RdGave.st2 H4.out.1 ?_ rfl rfl rfl rfl ?_) H.out.1.ok rfl (by omega) (fun _ => rfl) hx rfl rfl ⟨_, rfl, rfl⟩
          · exact (RdGave.st1 (v := .nilIface) (e := .returned .nilIface) (s' := { s' with r := s'.w }) (H.out.1.drewN _) (H.out.2.1.drewN _) rfl rfl rfl rfl (H.out.1.ok.put (Nat.le_refl _) hwn H.out.1.ok.lb0 H.out.1.ok.lb1 H.out.1.ok.lr0 H.out.1.ok.lr1)).2.2.trans H4.out.2
          · exact H.out.1.ok.put (Nat.le_refl _) hwn (by omega) (by omega) (by omega) (by omega)
end Go.Proofs.YtancmlapnhccdaaDoor
