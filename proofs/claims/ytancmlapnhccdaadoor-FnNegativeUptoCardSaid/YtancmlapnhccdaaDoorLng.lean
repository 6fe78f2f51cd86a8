/- laws.FnNegative: the walk. -/
import Derived.Test.YtancmlapnhccdaaDoorPlr
namespace Go.Proofs.YtancmlapnhccdaaDoor
open Go.RowKit

theorem neg_outs (n : Nat) (hn : n ≤ 255) (ps : List (List UInt8)) (t : WS) (m : Nat) (z : Int) (hm : m = ps.flatten.length) (hz : z < 0) :
    (runM (newReader (rsize n) ps) t (bares [(4, z), (5, z), (5, ((m : Nat) : Int) + 1)])).2.2 = [⟨[], 0, 4⟩, ⟨[], 0, 4⟩, ⟨[], ((m : Nat) : Int), 1⟩] := by
  have h1 : ¬ ((m : Nat) : Int) + 1 < 0 := by omega
  have h2 : ¬ ((m : Nat) : Int) + 1 = 0 := by omega
  have h3 : (((m : Nat) : Int) + 1).toNat = m + 1 := by omega
  have hr : ((sr0 ps.flatten).run (bares [(4, z), (5, z), (5, ((m : Nat) : Int) + 1)])) = ([⟨[], 0, 4⟩, ⟨[], 0, 4⟩, ⟨[], ((m : Nat) : Int), 1⟩], true) := by
    simp [SR.run, bares, bare, SR.call, sr0, hz, h1, h2, h3, SR.rest, ended, ← hm, -List.length_flatten]
  have := run_agree (bares [(4, z), (5, z), (5, ((m : Nat) : Int) + 1)]) (sr0 ps.flatten) (newReader (rsize n) ps) t (agree_new n hn ps) (by simp [bares, bare, isRd]) (by rw [hr])
  rw [this, hr]

set_option maxRecDepth 100000 in
set_option maxHeartbeats 1000000 in
theorem law12 (E : Nat → Addr) (n : Nat) (hn : n ≤ 255) (A : Option Addr) (c : Nat) (ps : List (List UInt8)) (q : Nat) (hq : q ≤ 65535) (w : World) (hE : Env w w.heap.size E) (ht : Lib.Utf8Tabs 9 10 w) (hp : PiecesAt w w.heap.size A ps) (hroom : Room (ps.flatten.length + 255)) (hl : Room ps.length) :
    Calls Tryd.prog 12 #[.int .u8 (n : Nat), .slice A ps.length c, .int .u16 (q : Nat)] w (LawTrue w) := by
  obtain ⟨m, hm⟩ : ∃ m, m = ps.flatten.length := ⟨_, rfl⟩
  have hmb : m ≤ 1000000000 := by rw [hm]; exact Nat.le_trans (by omega) hroom
  have Hm := Lib.hid hm; clear hm
  have HE := Lib.hid (And.intro hE (And.intro ht (And.intro hp (And.intro hroom hl)))); clear hE hp hroom hl ht
  go_enter Tryd.func12, Tryd.ntmps12
  go_wp2_with fail
  refine (joined22 A c ps w HE.out.2.2.1 (HE.out.2.2.2.1.mono (by omega)) HE.out.2.2.2.2).mono ?_
  rintro e w1 ⟨v1, rfl, hown1, hb1⟩
  rw [← Hm.out] at hown1
  obtain ⟨a1, c1, rfl⟩ := own_slice hown1
  have H1 := Lib.hid (And.intro hown1 hb1); clear hown1 hb1
  have hrun := run_bares E n hn A c ps [(4, -1 - (q : Int)), (5, -1 - (q : Int)), (5, (m : Int) + 1)] HE.out.1 HE.out.2.1 HE.out.2.2.1 HE.out.2.2.2.1 HE.out.2.2.2.2 H1.out.2 (by simp; omega) (by simp)
  rw [neg_outs n hn ps _ m (-1 - (q : Int)) Hm.out (by omega)] at hrun
  generalize (runM (newReader (rsize n) ps) ⟨zeros (wsize n), 0, []⟩ (bares [(4, -1 - (q : Int)), (5, -1 - (q : Int)), (5, (m : Int) + 1)])).2.1.got = got at hrun
  have HR := Lib.hid hrun; clear hrun
  have hw1 := IntWalk.wrap64_in (q : Int) (by omega)
  have hw2 := IntWalk.wrap64_in (-1 - (q : Int)) (by omega)
  have hw3 := IntWalk.wrap64_in ((m : Int) + 1) (by omega)
  go_wp2_with fail
  refine HR.out.mono ?_
  rintro e w2 ⟨a, c2, gv, flat, rfl, hown, houts, hgv, hb2⟩
  obtain ⟨g, rfl⟩ := own_some hown (by simp)
  obtain ⟨A0, k0, x00, x01, x02, _⟩ := out_cells hown houts 0 _ rfl
  obtain ⟨A1, k1, x10, x11, x12, _⟩ := out_cells hown houts 1 _ rfl
  obtain ⟨A2, k2, x20, x21, x22, _⟩ := out_cells hown houts 2 _ rfl
  have H2 := Lib.hid (And.intro hown (And.intro houts (And.intro hgv hb2))); clear hown houts hgv hb2
  simp only [List.length_cons, List.length_nil, Nat.zero_mul, Nat.zero_add, Nat.one_mul, Nat.reduceAdd, Nat.reduceMul] at x00 x01 x02 x10 x11 x12 x20 x21 x22 ⊢
  go_wp2_with fail
  go_ret
  exact ⟨rfl, law_below H1.out.2 H2.out.2.2.2⟩
end Go.Proofs.YtancmlapnhccdaaDoor
