/- laws.FnUnreadRune: the walk. -/
import Derived.Test.YtancmlapnhccdaaDoorSam
namespace Go.Proofs.YtancmlapnhccdaaDoor
open Go.RowKit

def ur : List (Int × Int) := [(1, 0), (3, 0), (3, 0), (1, 0), (3, 0), (0, 0), (3, 0)]
theorem ur_none (n : Nat) (hn : n ≤ 255) (ps : List (List UInt8)) (t : WS) (h : ps.flatten = []) :
    ∃ x1 x2 x3 x4 x5 x6, (runM (newReader (rsize n) ps) t (bares ur)).2.2 = [⟨[], 0, 1⟩, x1, x2, x3, x4, x5, x6] := by
  have ha := agree_new n hn ps
  have h0 := (agree ha (bare 1 0) (by simp [SR.call, bare, sr0, SR.rest, h])).1
  have hc : (callM (newReader (rsize n) ps) t (bare 1 0)).2.2 = ⟨[], 0, 1⟩ := by
    unfold callM
    rw [if_pos (by simp [bare, isRd])]
    show (rdCall _ _).2 = _
    rw [h0]
    simp [SR.call, bare, sr0, SR.rest, h]
  have hb : bares ur = bare 1 0 :: bare 3 0 :: bare 3 0 :: bare 1 0 :: bare 3 0 :: bare 0 0 :: bare 3 0 :: [] := rfl
  rw [hb]
  simp only [runM, hc]
  exact ⟨_, _, _, _, _, _, rfl⟩
theorem ur_some (n : Nat) (hn : n ≤ 255) (ps : List (List UInt8)) (t : WS) (x : UInt8) (l : List UInt8) (h : ps.flatten = x :: l) :
    ∃ o : OutD, ∃ y4 : OutD, (runM (newReader (rsize n) ps) t (bares ur)).2.2 = [o, ⟨[], 0, 0⟩, ⟨[], 0, 3⟩, o, y4, ⟨[], (x.toNat : Int), 0⟩, ⟨[], 0, 3⟩] := by
  have hd := @dec_ge (x :: l)
  have hd0 : ¬ (decM (x :: l)).2 = 0 := by omega
  refine ⟨⟨List.replicate (decM (x :: l)).2 0, ((decM (x :: l)).1 : Int), 0⟩, ⟨[], 0, 0⟩, ?_⟩
  have hr : (sr0 ps.flatten).run (bares ur) = ([⟨List.replicate (decM (x :: l)).2 0, ((decM (x :: l)).1 : Int), 0⟩, ⟨[], 0, 0⟩, ⟨[], 0, 3⟩, ⟨List.replicate (decM (x :: l)).2 0, ((decM (x :: l)).1 : Int), 0⟩, ⟨[], 0, 0⟩, ⟨[], (x.toNat : Int), 0⟩, ⟨[], 0, 3⟩], true) := by
    simp [ur, SR.run, bares, bare, SR.call, sr0, h, SR.rest, SR.read, SR.back, noOut, hd0]
  have := run_agree (bares ur) (sr0 ps.flatten) (newReader (rsize n) ps) t (agree_new n hn ps) (by simp [ur, bares, bare, isRd]) (by rw [hr])
  rw [this, hr]

set_option maxRecDepth 100000 in
set_option maxHeartbeats 1000000 in
theorem law5 (E : Nat → Addr) (n : Nat) (hn : n ≤ 255) (A : Option Addr) (c : Nat) (ps : List (List UInt8)) (w : World) (hE : Env w w.heap.size E) (ht : Lib.Utf8Tabs 9 10 w) (hp : PiecesAt w w.heap.size A ps) (hroom : Room (ps.flatten.length + 255)) (hl : Room ps.length) :
    Calls Tryd.prog 5 #[.int .u8 (n : Nat), .slice A ps.length c] w (LawTrue w) := by
  obtain ⟨all, hall⟩ : ∃ all, all = ps.flatten := ⟨_, rfl⟩
  have Hall := Lib.hid hall; clear hall
  have HE := Lib.hid (And.intro hE (And.intro ht (And.intro hp (And.intro hroom hl)))); clear hE hp hroom hl ht
  go_enter Tryd.func5, Tryd.ntmps5
  go_wp2_with fail
  refine (joined22 A c ps w HE.out.2.2.1 (HE.out.2.2.2.1.mono (by omega)) HE.out.2.2.2.2).mono ?_
  rintro e w1 ⟨v1, rfl, hown1, hb1⟩
  rw [← Hall.out] at hown1
  obtain ⟨a1, c1, rfl⟩ := own_slice hown1
  have H1 := Lib.hid (And.intro hown1 hb1); clear hown1 hb1
  have hrun := run_bares E n hn A c ps ur HE.out.1 HE.out.2.1 HE.out.2.2.1 HE.out.2.2.2.1 HE.out.2.2.2.2 H1.out.2 (by simp [ur]) (by simp [ur])
  generalize hgo : (runM (newReader (rsize n) ps) ⟨zeros (wsize n), 0, []⟩ (bares ur)).2.1.got = got at hrun
  clear hgo
  rcases all with _ | ⟨x, l⟩
  · obtain ⟨x1, x2, x3, x4, x5, x6, hos⟩ := ur_none n hn ps ⟨zeros (wsize n), 0, []⟩ Hall.out.symm
    rw [hos] at hrun
    have HR := Lib.hid hrun; clear hrun hos
    go_wp2_with fail
    refine HR.out.mono ?_
    rintro e w2 ⟨a, c2, gv, flat, rfl, hown, houts, hgv, hb2⟩
    obtain ⟨g, rfl⟩ := own_some hown (by simp)
    obtain ⟨A0, k0, x00, x01, x02, _⟩ := out_cells hown houts 0 _ rfl
    have H2 := Lib.hid (And.intro hown (And.intro houts (And.intro hgv hb2))); clear hown houts hgv hb2
    simp only [List.length_cons, List.length_nil, Nat.zero_mul, Nat.zero_add, Nat.reduceAdd] at x00 x01 x02 ⊢
    go_wp2_with fail
    go_ret
    exact ⟨rfl, law_below H1.out.2 H2.out.2.2.2⟩
  · obtain ⟨o, y4, hos⟩ := ur_some n hn ps ⟨zeros (wsize n), 0, []⟩ x l Hall.out.symm
    rw [hos] at hrun
    have HR := Lib.hid hrun; clear hrun hos
    obtain ⟨g1, rfl⟩ := own_some H1.out.1 (by simp)
    go_wp2_with fail
    refine HR.out.mono ?_
    rintro e w2 ⟨a, c2, gv, flat, rfl, hown, houts, hgv, hb2⟩
    obtain ⟨g, rfl⟩ := own_some hown (by simp)
    obtain ⟨A1, k1, x10, x11, x12, _⟩ := out_cells hown houts 1 _ rfl
    obtain ⟨A2, k2, x20, x21, x22, _⟩ := out_cells hown houts 2 _ rfl
    obtain ⟨A5, k5, x50, x51, x52, _⟩ := out_cells hown houts 5 _ rfl
    obtain ⟨A6, k6, x60, x61, x62, _⟩ := out_cells hown houts 6 _ rfl
    have hs0 := outs_cut hown houts 0 _ rfl
    have hs3 := outs_cut hown houts 3 _ rfl
    have hcap : 7 ≤ c2 := own_cap hown
    have hsame : ∀ (k c c' : Nat), Calls Tryd.prog 24 #[.slice (some ⟨g, 0, none⟩) 1 c, .slice (some ⟨g, 9, none⟩) 1 c'] (w2.drewN k) (fun e w' => e = .returned (.bool true) ∧ ∃ m, w' = (w2.drewN k).drewN m) :=
      fun k c c' => same24 _ _ c c' [o] (w2.drewN k) (hs0.drewN k) (hs3.drewN k) (by simp [Room])
    have hd : w2.cell? ⟨g1, 0, none⟩ = some (.int .u8 (x.toNat : Int)) := by
      have h1 := H1.out.1.cells (g := g1) rfl 0 (bv x) rfl
      have h2 := H1.out.1.lt g1 rfl
      rw [add_mk, Nat.zero_add] at h1
      refine (hb2.cell (p := ⟨g1, 0, none⟩) ?_).trans ((World.cell?_alloc_lt w1 _ ⟨g1, 0, none⟩ h2.2).trans h1)
      simp; omega
    have H2 := Lib.hid (And.intro hown (And.intro houts (And.intro hgv hb2))); clear hown houts hgv hb2 hs0 hs3
    have HS := Lib.hid hsame; clear hsame
    have hx := x.toNat_lt
    have hw1 := IntWalk.wrap64_in (x.toNat : Int) (by omega)
    have hlen : ¬ ((l.length + 1 : Nat) : Int) = 0 := by omega
    have hc1 : (1 : Int) ≤ (c2 : Int) := by omega
    have hc4 : (4 : Int) ≤ (c2 : Int) := by omega
    have hc3 : ¬ c2 = 3 := by omega
    simp only [List.length_cons, List.length_nil, Nat.zero_add, Nat.one_mul, Nat.reduceAdd, Nat.reduceMul] at x10 x11 x12 x20 x21 x22 x50 x51 x52 x60 x61 x62 ⊢
    go_wp2_with fail
    go_quiet (first | (go_at_call 24; exact Calls.quiet_of (HS.out _ _ _)))
    go_wp2_with fail
    go_ret
    exact ⟨rfl, below_drewN (law_below H1.out.2 H2.out.2.2.2) _⟩
end Go.Proofs.YtancmlapnhccdaaDoor
