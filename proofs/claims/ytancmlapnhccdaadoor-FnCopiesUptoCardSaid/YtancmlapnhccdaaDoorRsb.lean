/- Joined by merge.py out of: LayB, Rst. -/
import Derived.Test.YtancmlapnhccdaaDoorEnv
import Derived.Shelf.Strings.Builder1
import Derived.Shelf.Strings.Builder2
import Derived.Shelf.Spec.BuilderWrite
import Derived.Test.YtancmlapnhccdaaDoorRcb

/- The shelf's contracts for strings.Builder, laid at this seat's own numbers (printed by gen_lays.py). -/
namespace Go.Proofs.YtancmlapnhccdaaDoor
open Go.Shelf

def renB : Ren where
  f n := match n with
    | 165 => 69
    | 169 => 71
    | 240 => 76
    | 241 => 77
    | 276 => 80
    | 277 => 81
    | _ => 0
  t n := match n with
    | 0 => 0
    | 3 => 3
    | 4 => 4
    | 5 => 5
    | 9 => 9
    | 20 => 20
    | 37 => 25
    | 70 => 130
    | 72 => 132
    | 127 => 145
    | 164 => 147
    | _ => 0
  g _ := 0

def renW : Ren where
  f n := match n with
    | 35 => 70
    | 52 => 76
    | 59 => 80
    | _ => 0
  t n := match n with
    | 0 => 0
    | 3 => 3
    | 4 => 4
    | 5 => 5
    | 9 => 9
    | 20 => 20
    | 30 => 25
    | 36 => 130
    | 38 => 68
    | 89 => 133
    | 59 => 132
    | 73 => 147
    | _ => 0
  g _ := 0

theorem lays165 : Lays.n165 Tryd.prog renB where
  mixed := by kernel_rfl
  f165 := by kernel_rfl
  f240 := by kernel_rfl
  f241 := by kernel_rfl
  f276 := by kernel_rfl
  f277 := by kernel_rfl
  t0 := by kernel_rfl
  a0 := fun _ => by kernel_rfl
  z0 := fun _ => by kernel_rfl
  v0 := fun _ => by kernel_rfl
  t3 := by kernel_rfl
  a3 := fun _ => by kernel_rfl
  z3 := fun _ => by kernel_rfl
  v3 := fun _ => by kernel_rfl
  t4 := by kernel_rfl
  a4 := fun _ => by kernel_rfl
  z4 := fun _ => by kernel_rfl
  v4 := fun _ => by kernel_rfl
  t9 := by kernel_rfl
  a9 := fun _ => by kernel_rfl
  z9 := fun _ => by kernel_rfl
  v9 := fun _ => by kernel_rfl
  t20 := by kernel_rfl
  a20 := fun _ => by kernel_rfl
  z20 := fun _ => by kernel_rfl
  v20 := fun _ => by kernel_rfl
  t37 := by kernel_rfl
  a37 := fun _ => by kernel_rfl
  z37 := fun _ => by kernel_rfl
  v37 := fun _ => by kernel_rfl
  t70 := by kernel_rfl
  a70 := fun _ => by kernel_rfl
  z70 := fun _ => by kernel_rfl
  v70 := fun _ => by kernel_rfl
  t72 := by kernel_rfl
  a72 := fun _ => by kernel_rfl
  z72 := fun _ => by kernel_rfl
  v72 := fun _ => by kernel_rfl
  t164 := by kernel_rfl
  a164 := fun _ => by kernel_rfl
  z164 := fun _ => by kernel_rfl
  v164 := fun _ => by kernel_rfl

theorem lays169 : Lays.n169 Tryd.prog renB where
  mixed := by kernel_rfl
  f169 := by kernel_rfl
  t0 := by kernel_rfl
  a0 := fun _ => by kernel_rfl
  z0 := fun _ => by kernel_rfl
  v0 := fun _ => by kernel_rfl
  t3 := by kernel_rfl
  a3 := fun _ => by kernel_rfl
  z3 := fun _ => by kernel_rfl
  v3 := fun _ => by kernel_rfl
  t9 := by kernel_rfl
  a9 := fun _ => by kernel_rfl
  z9 := fun _ => by kernel_rfl
  v9 := fun _ => by kernel_rfl
  t37 := by kernel_rfl
  a37 := fun _ => by kernel_rfl
  z37 := fun _ => by kernel_rfl
  v37 := fun _ => by kernel_rfl
  t70 := by kernel_rfl
  a70 := fun _ => by kernel_rfl
  z70 := fun _ => by kernel_rfl
  v70 := fun _ => by kernel_rfl
  t72 := by kernel_rfl
  a72 := fun _ => by kernel_rfl
  z72 := fun _ => by kernel_rfl
  v72 := fun _ => by kernel_rfl
  t127 := by kernel_rfl
  a127 := fun _ => by kernel_rfl
  z127 := fun _ => by kernel_rfl
  v127 := fun _ => by kernel_rfl

theorem lays240 : Lays.n240 Tryd.prog renB where
  mixed := by kernel_rfl
  f240 := by kernel_rfl
  f276 := by kernel_rfl
  t0 := by kernel_rfl
  a0 := fun _ => by kernel_rfl
  z0 := fun _ => by kernel_rfl
  v0 := fun _ => by kernel_rfl
  t4 := by kernel_rfl
  a4 := fun _ => by kernel_rfl
  z4 := fun _ => by kernel_rfl
  v4 := fun _ => by kernel_rfl
  t9 := by kernel_rfl
  a9 := fun _ => by kernel_rfl
  z9 := fun _ => by kernel_rfl
  v9 := fun _ => by kernel_rfl
  t20 := by kernel_rfl
  a20 := fun _ => by kernel_rfl
  z20 := fun _ => by kernel_rfl
  v20 := fun _ => by kernel_rfl
  t70 := by kernel_rfl
  a70 := fun _ => by kernel_rfl
  z70 := fun _ => by kernel_rfl
  v70 := fun _ => by kernel_rfl
  t72 := by kernel_rfl
  a72 := fun _ => by kernel_rfl
  z72 := fun _ => by kernel_rfl
  v72 := fun _ => by kernel_rfl
  t164 := by kernel_rfl
  a164 := fun _ => by kernel_rfl
  z164 := fun _ => by kernel_rfl
  v164 := fun _ => by kernel_rfl

theorem lays35 : Lays7.n35 Tryd.prog renW where
  mixed := by kernel_rfl
  f35 := by kernel_rfl
  f52 := by kernel_rfl
  f59 := by kernel_rfl
  t0 := by kernel_rfl
  a0 := fun _ => by kernel_rfl
  z0 := fun _ => by kernel_rfl
  v0 := fun _ => by kernel_rfl
  i0 := by kernel_rfl
  t3 := by kernel_rfl
  a3 := fun _ => by kernel_rfl
  z3 := fun _ => by kernel_rfl
  v3 := fun _ => by kernel_rfl
  i3 := by kernel_rfl
  t4 := by kernel_rfl
  a4 := fun _ => by kernel_rfl
  z4 := fun _ => by kernel_rfl
  v4 := fun _ => by kernel_rfl
  i4 := by kernel_rfl
  t9 := by kernel_rfl
  a9 := fun _ => by kernel_rfl
  z9 := fun _ => by kernel_rfl
  v9 := fun _ => by kernel_rfl
  i9 := by kernel_rfl
  t20 := by kernel_rfl
  a20 := fun _ => by kernel_rfl
  z20 := fun _ => by kernel_rfl
  v20 := fun _ => by kernel_rfl
  i20 := by kernel_rfl
  t30 := by kernel_rfl
  a30 := fun _ => by kernel_rfl
  z30 := fun _ => by kernel_rfl
  v30 := fun _ => by kernel_rfl
  i30 := by kernel_rfl
  t36 := by kernel_rfl
  a36 := fun _ => by kernel_rfl
  z36 := fun _ => by kernel_rfl
  v36 := fun _ => by kernel_rfl
  i36 := by kernel_rfl
  t38 := by kernel_rfl
  a38 := fun _ => by kernel_rfl
  z38 := fun _ => by kernel_rfl
  v38 := fun _ => by kernel_rfl
  i38 := by kernel_rfl
  t59 := by kernel_rfl
  a59 := fun _ => by kernel_rfl
  z59 := fun _ => by kernel_rfl
  v59 := fun _ => by kernel_rfl
  i59 := by kernel_rfl
  t73 := by kernel_rfl
  a73 := fun _ => by kernel_rfl
  z73 := fun _ => by kernel_rfl
  v73 := fun _ => by kernel_rfl
  i73 := by kernel_rfl

theorem extraB : Builder.Extra Tryd.prog renB where
  sizeBuilder := by kernel_rfl
  liesBuilder := by kernel_rfl
  t5 := by kernel_rfl
  a5 := fun _ => by kernel_rfl
  z5 := fun _ => by kernel_rfl
  v5 := fun _ => by kernel_rfl
  infoByte := by kernel_rfl
  cellsByte := by kernel_rfl
  sizeByte := by kernel_rfl
  neB5 := by decide
end Go.Proofs.YtancmlapnhccdaaDoor

/- bufio.Reader: ReadString. -/
namespace Go.Proofs.YtancmlapnhccdaaDoor
open Go.RowKit

theorem byteCells_bvs (l : List UInt8) : Lib.byteCells l = bvs l := rfl

theorem sbGrow (b n : Nat) (w : World) (hbk : w.heap[b]? = some (.cells #[.pointer none, .slice none 0 0] 132 (0, 0))) (hb : b ≤ w.heap.size) (hn : n ≤ 1000000000) :
    Calls Tryd.prog 69 #[.pointer (some ⟨b, 0, none⟩), .int .i64 (n : Int)] w fun e w' => e = .returned (.tuple #[]) ∧ Lib.IsBuilder 132 5 b b (bvs []) w' ∧ Below b w w' :=
  (Any.Builder_Grow_fresh lays165 extraB b b n w (Nat.le_refl _) hbk hb (by omega)).mono fun _ _ h => ⟨h.1, .inr h.2.1, h.2.2⟩
theorem sbWrite (b : Nat) (bs : List UInt8) (ad : Addr) (c : Nat) (p : List UInt8) (w : World) (h : Lib.IsBuilder 132 5 b b (bvs bs) w) (hr : Reads w b 1 (some ad) p.length (bvs p)) (hadB : ad.block < b) (hlen : bs.length + p.length ≤ 1000000000) (hb : b ≤ w.heap.size) :
    Calls Tryd.prog 70 #[.pointer (some ⟨b, 0, none⟩), .slice (some ad) p.length c] w fun e w' => e = .returned (.tuple #[.int .i64 (p.length : Nat), .nilIface]) ∧ Lib.IsBuilder 132 5 b b (bvs (bs ++ p)) w' ∧ Below b w w' := by
  refine (Any7.Builder_Write lays35 lays240 extraB rfl rfl rfl b b (bvs bs) ad p.length c (bvs p) w h (bvs_length p) ?_ hadB (bvs_one p) (by rw [bvs_length]; omega) hb).mono fun _ _ h => ⟨h.1, .inr (by rw [bvs_append]; exact h.2.1), h.2.2⟩
  intro j u hj
  rcases Nat.eq_zero_or_pos p.length with h0 | h0
  · have : p = [] := List.eq_nil_of_length_eq_zero h0
    subst this
    simp [bvs] at hj
  · obtain ⟨ad', e, _, hc⟩ := hr.2 h0
    injection e with e
    subst e
    exact hc j u hj
theorem sbString (b : Nat) (l : List UInt8) (w : World) (h : Lib.IsBuilder 132 5 b b (bvs l) w) (hb : b ≤ w.heap.size) :
    Calls Tryd.prog 71 #[.pointer (some ⟨b, 0, none⟩)] w fun e w' => e = .returned (.string (strOf l)) ∧ Below b w w' :=
  Any.Builder_String_any lays169 extraB b b l w h hb

def SbRel (full : List (List UInt8)) (b : Nat) (w1 : World) (k : Nat) (t25 : Value) (wr : World) : Prop :=
  ∃ i : Nat, i ≤ full.length ∧ t25 = .int .i64 (i : Int) ∧ Lib.IsBuilder 132 5 b b (bvs (full.take i).flatten) wr ∧ Below b w1 wr ∧ k = full.length - i

def StrGave (E : Nat → Addr) (L : RL) (x : RS × List UInt8 × Nat) (w : World) (e : Ending) (w' : World) : Prop :=
  RdGave E L (.tuple #[.string (strOf x.2.1), errV E x.2.2]) x.1 w e w'

set_option maxRecDepth 100000 in
set_option maxHeartbeats 4000000 in
theorem readString55 (E : Nat → Addr) (L : RL) (s : RS) (d : UInt8) (w : World) (h : RdrAt w E L s) (heof : s.eof = true → s.src.flatten = []) (hroom : Room (left s).length) :
    Calls Tryd.prog 55 #[.pointer (some ⟨L.R, 0, none⟩), .int .u8 (d.toNat : Int)] w (StrGave E L (lineM d s) w) := by
  have hcs := coll_spec d (dmeas s) s [] h.ok (by unfold dmeas; omega) heof
  have HR := Lib.hid (And.intro hroom hcs); clear hcs
  have Hc := Lib.hid (collect68 E L s d w h heof hroom); clear h heof hroom
  obtain ⟨y, hy⟩ : ∃ y, y = collM d s := ⟨_, rfl⟩
  have hly : lineM d s = (y.1, y.2.1.flatten ++ y.2.2.1, y.2.2.2) := by rw [hy]; rfl
  rw [hly]
  have hlen : y.2.1.flatten.length + y.2.2.1.length ≤ 1000000000 := by
    have h3 := congrArg List.length HR.out.2.2.2.1
    have h4 := lineL_len (left s) d
    have h5 := HR.out.1
    unfold Room at h5
    have e : collF d (dmeas s) s [] = y := hy.symm
    rw [e] at h3
    simp only [List.length_append, List.flatten_nil, List.nil_append] at h3
    omega
  rw [← hy] at Hc
  clear hy hly
  obtain ⟨t, full, frag, err⟩ := y
  simp only at hlen ⊢
  obtain ⟨T, hT⟩ : ∃ T, T = full.flatten.length + frag.length := ⟨_, rfl⟩
  go_enter Tryd.func55, Tryd.ntmps55
  go_wp2_with fail
  refine Hc.out.mono ?_
  rintro e w1 ⟨vs, a4, c4, A, c, rfl, hown, hfr, hrd, hr1, hk1, hfl, ad0, rfl, had0⟩
  simp only at hown hfr hrd hr1 hfl ⊢
  rw [← hT] at hlen ⊢
  have HT := Lib.hid hT; clear hT
  obtain ⟨fl, hfle⟩ : ∃ fl, fl = full.length := ⟨_, rfl⟩
  rw [← hfle]
  obtain ⟨gl, hgle⟩ : ∃ gl, gl = frag.length := ⟨_, rfl⟩
  rw [← hgle]
  have Hl := Lib.hid (And.intro hfle hgle); clear hfle hgle
  have H1 := Lib.hid (And.intro hown (And.intro hfr (And.intro hrd (And.intro hr1 (And.intro hk1 hfl))))); clear hown hfr hrd hr1 hk1 hfl
  obtain ⟨ev, hev⟩ : ∃ ev, ev = errV E err := ⟨_, rfl⟩
  rw [← hev]
  have Hev := Lib.hid hev; clear hev
  have hflI : (fl : Int) ≤ 1000000000 := by
    have := H1.out.2.2.2.2.2; have := Hl.out.1; have := HT.out; omega
  go_wp2_with fail
  refine (sbGrow w1.heap.size T _ (Blk.new w1 132 _) (by simp) hlen).mono ?_
  rintro e w2 ⟨rfl, hib, hb2⟩
  have hb2' : Below w1.heap.size w1 w2 := ((Below.refl _ w1).alloc (Nat.le_refl _) _).trans hb2
  have H2 := Lib.hid (And.intro hib hb2'); clear hib hb2 hb2'
  go_wp2_with fail
  go_loopg [25] full.length (fun k t25 wr => SbRel full w1.heap.size w1 k t25 wr)
  case atStart => exact ⟨0, Nat.zero_le _, rfl, by simpa using H2.out.1, H2.out.2, rfl⟩
  case round =>
    obtain ⟨i, hi, rfl, hib, hbw, hkk⟩ := hrel
    by_cases hlt : i < full.length
    · have hd : decide (i < fl) = true := by rw [Hl.out.1]; simpa using hlt
      have hrow := Reads.of_own H1.out.1
      obtain ⟨ad, u, hA, hadb, hvs, hcell1⟩ := hrow.at_ hlt
      subst hA
      have hcell := (hbw.cell (p := ad.add i) (by rw [block_of_add]; exact hadb)).trans hcell1
      clear hcell1
      obtain ⟨v, hv, hvo, hne⟩ := H1.out.2.1.2 i full[i] (List.getElem?_eq_getElem hlt)
      rw [hvs] at hv
      injection hv with hv
      subst hv
      obtain ⟨a1, c1, rfl⟩ := own_slice hvo
      have hpo := Reads.of_own hvo
      obtain ⟨ad1, rfl, hb1, hc1⟩ := hpo.2 (List.length_pos_iff.2 hne)
      have hpr : Reads wr w1.heap.size 1 (some ad1) (full[i]).length (bvs full[i]) := ⟨hpo.1, fun _ => ⟨ad1, rfl, hb1, fun j u hj => (hbw.cell (p := ad1.add j) (by rw [block_of_add]; exact hb1)).trans (hc1 j u hj)⟩⟩
      have htk1 : (full.take (i + 1)).flatten = (full.take i).flatten ++ full[i] := take_step full i hlt
      have htl : (full.take i).flatten.length + (full[i]).length ≤ 1000000000 := by
        have h1 := take_flat full (i + 1)
        rw [htk1, List.length_append] at h1
        have := HT.out; omega
      generalize full[i] = p at *
      obtain ⟨pl, hpl⟩ : ∃ pl, pl = p.length := ⟨_, rfl⟩
      have HP := Lib.hid (And.intro hib (And.intro hbw (And.intro hpr (And.intro htk1 (And.intro hkk (And.intro hpl htl))))))
      rw [← hpl] at hcell
      have hil : i < 1000000000 := by have := Hl.out.1; omega
      have hii : (i : Int) < (fl : Int) := by have := Hl.out.1; omega
      clear hib hbw hpr htk1 hkk hpl htl hrow hvs hvo hpo hc1
      go_wp2_with fail
      have hsw := sbWrite w1.heap.size (full.take i).flatten ad1 c1 p wr HP.out.1 HP.out.2.2.1 hb1 HP.out.2.2.2.2.2.2 HP.out.2.1.size
      rw [← HP.out.2.2.2.2.2.1] at hsw
      refine hsw.mono ?_
      clear hsw
      rintro e w3 ⟨rfl, hib3, hb3⟩
      have H3 := Lib.hid (And.intro hib3 hb3); clear hib3 hb3
      go_wp2_with fail
      go_roundg (full.length - (i + 1))
      case measure => have := HP.out.2.2.2.2.1; omega
      case rel => exact ⟨i + 1, hlt, by go_num, by rw [HP.out.2.2.2.1]; exact H3.out.1, HP.out.2.1.trans H3.out.2, rfl⟩
    · have hd : decide (i < fl) = false := by rw [Hl.out.1]; simpa using hlt
      have hall : full.take i = full := List.take_of_length_le (by omega)
      rw [hall] at hib
      have hpr : Reads wr w1.heap.size 1 (some ad0) frag.length (bvs frag) := (H1.out.2.2.1).below hbw
      have HP := Lib.hid (And.intro hib (And.intro hbw hpr)); clear hib hbw hpr hkk hall
      go_wp2_with fail
      have hsw := sbWrite w1.heap.size full.flatten ad0 c frag wr HP.out.1 HP.out.2.2 had0 (by have := HT.out; omega) HP.out.2.1.size
      rw [← Hl.out.2] at hsw
      refine hsw.mono ?_
      clear hsw
      rintro e w3 ⟨rfl, hib3, hb3⟩
      have hb3' := HP.out.2.1.trans hb3
      have H3 := Lib.hid (And.intro hib3 hb3'); clear hib3 hb3 hb3'
      go_wp2_with fail
      refine (sbString w1.heap.size (full.flatten ++ frag) w3 H3.out.1 H3.out.2.size).mono ?_
      rintro e w4 ⟨rfl, hb4⟩
      have H4 := Lib.hid hb4; clear hb4
      go_wp2_with fail
      go_ret2
      have hbf : Below w1.heap.size w1 w4 := H3.out.2.trans H4.out
      rw [Hev.out]
      exact ⟨rfl, H1.out.2.2.2.1.keep (Keep.ofBelow hbf (fun _ => False)) (fun _ h => h.elim) (fun _ h => h.elim), H1.out.2.2.2.2.1.trans (Keep.ofBelow hbf _)⟩
end Go.Proofs.YtancmlapnhccdaaDoor
