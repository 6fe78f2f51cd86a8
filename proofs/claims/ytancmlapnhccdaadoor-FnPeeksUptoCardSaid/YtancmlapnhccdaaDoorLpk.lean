/- laws.FnPeeks: the walk. -/
import Derived.Test.YtancmlapnhccdaaDoorSam
import Derived.Test.YtancmlapnhccdaaDoorSpb
namespace Go.Proofs.YtancmlapnhccdaaDoor
open Go.RowKit

def pk (k : Nat) : List (Int × Int) := [(0, 0), (4, (k : Int)), (2, 0), (3, 0), (4, (k : Int)), (5, (k : Int) + 1)]
theorem pk_none (k : Nat) (n : Nat) (hn : n ≤ 255) (ps : List (List UInt8)) (t : WS) (h : ps.flatten = []) :
    ∃ x1 x2 x3 x4 x5, (runM (newReader (rsize n) ps) t (bares (pk k))).2.2 = [⟨[], 0, 1⟩, x1, x2, x3, x4, x5] := by
  have ha := agree_new n hn ps
  have h0 := (agree ha (bare 0 0) (by simp [SR.call, bare, sr0, SR.rest, h])).1
  have hc : (callM (newReader (rsize n) ps) t (bare 0 0)).2.2 = ⟨[], 0, 1⟩ := by
    unfold callM
    rw [if_pos (by simp [bare, isRd])]
    show (rdCall _ _).2 = _
    rw [h0]
    simp [SR.call, bare, sr0, SR.rest, h]
  have hb : bares (pk k) = bare 0 0 :: bare 4 k :: bare 2 0 :: bare 3 0 :: bare 4 k :: bare 5 ((k : Int) + 1) :: [] := rfl
  rw [hb]
  simp only [runM, hc]
  exact ⟨_, _, _, _, _, rfl⟩
theorem pk_some (k : Nat) (hk : k ≤ 16) (n : Nat) (hn : n ≤ 255) (ps : List (List UInt8)) (t : WS) (x : UInt8) (l : List UInt8) (h : ps.flatten = x :: l) :
    (runM (newReader (rsize n) ps) t (bares (pk k))).2.2 = [⟨[], (x.toNat : Int), 0⟩, ⟨l.take k, 0, ended (decide (l.length < k))⟩, ⟨[], 0, 2⟩, ⟨[], 0, 3⟩, ⟨l.take k, 0, ended (decide (l.length < k))⟩, ⟨[], ((min (k + 1) l.length : Nat) : Int), ended (decide (l.length < k + 1))⟩] := by
  have h1 : ¬ ((k : Nat) : Int) + 1 < 0 := by omega
  have h2 : ¬ ((k : Nat) : Int) + 1 = 0 := by omega
  have h3 : (((k : Nat) : Int) + 1).toNat = k + 1 := by omega
  have h4 : ¬ ((k : Nat) : Int) < 0 := by omega
  have h5 : ((k : Nat) : Int) ≤ 16 := by omega
  have hr : (sr0 ps.flatten).run (bares (pk k)) = ([⟨[], (x.toNat : Int), 0⟩, ⟨l.take k, 0, ended (decide (l.length < k))⟩, ⟨[], 0, 2⟩, ⟨[], 0, 3⟩, ⟨l.take k, 0, ended (decide (l.length < k))⟩, ⟨[], ((min (k + 1) l.length : Nat) : Int), ended (decide (l.length < k + 1))⟩], true) := by
    simp [pk, SR.run, bares, bare, SR.call, sr0, h, SR.rest, SR.read, SR.on, h1, h2, h3, h4, h5]
  have := run_agree (bares (pk k)) (sr0 ps.flatten) (newReader (rsize n) ps) t (agree_new n hn ps) (by simp [pk, bares, bare, isRd]) (by rw [hr])
  rw [this, hr]

set_option maxRecDepth 100000 in
set_option maxHeartbeats 2000000 in
theorem law15 (E : Nat → Addr) (n : Nat) (hn : n ≤ 255) (A : Option Addr) (c : Nat) (ps : List (List UInt8)) (q : Nat) (hq : q ≤ 255) (w : World) (hE : Env w w.heap.size E) (ht : Lib.Utf8Tabs 9 10 w) (hp : PiecesAt w w.heap.size A ps) (hroom : Room (ps.flatten.length + 255)) (hl : Room ps.length) :
    Calls Tryd.prog 15 #[.int .u8 (n : Nat), .slice A ps.length c, .int .u8 (q : Nat)] w (LawTrue w) := by
  obtain ⟨all, hall⟩ : ∃ all, all = ps.flatten := ⟨_, rfl⟩
  have hab : all.length ≤ 1000000000 := by rw [hall]; exact Nat.le_trans (by omega) hroom
  have Hall := Lib.hid hall; clear hall
  have HE := Lib.hid (And.intro hE (And.intro ht (And.intro hp (And.intro hroom hl)))); clear hE hp hroom hl ht
  obtain ⟨k, hk⟩ : ∃ k, k = q % 17 := ⟨_, rfl⟩
  have hk16 : k ≤ 16 := by omega
  have hkr : ((q : Nat) : Int).tmod 17 = (k : Int) := by rw [hk, Int.tmod_eq_emod_of_nonneg (by omega)]; omega
  have hw0 := IntWalk.wrap64_in (k : Int) (by omega)
  have hw1 := IntWalk.wrap64_in ((k : Int) + 1) (by omega)
  clear hk
  go_enter Tryd.func15, Tryd.ntmps15
  go_wp2_with fail
  refine (joined22 A c ps w HE.out.2.2.1 (HE.out.2.2.2.1.mono (by omega)) HE.out.2.2.2.2).mono ?_
  rintro e w1 ⟨v1, rfl, hown1, hb1⟩
  rw [← Hall.out] at hown1
  obtain ⟨a1, c1, rfl⟩ := own_slice hown1
  have H1 := Lib.hid (And.intro hown1 hb1); clear hown1 hb1
  have hrun := run_bares E n hn A c ps (pk k) HE.out.1 HE.out.2.1 HE.out.2.2.1 HE.out.2.2.2.1 HE.out.2.2.2.2 H1.out.2 (by simp [pk]; omega) (by simp [pk])
  generalize hgo : (runM (newReader (rsize n) ps) ⟨zeros (wsize n), 0, []⟩ (bares (pk k))).2.1.got = got at hrun
  clear hgo
  unfold pk at hrun
  rcases all with _ | ⟨x, l⟩
  · obtain ⟨x1, x2, x3, x4, x5, hos⟩ := pk_none k n hn ps ⟨zeros (wsize n), 0, []⟩ Hall.out.symm
    unfold pk at hos
    rw [hos] at hrun
    have HR := Lib.hid hrun; clear hrun hos
    go_wp2_with fail
    refine HR.out.mono ?_
    rintro e w2 ⟨a, c2, gv, flat, rfl, hown, houts, hgv, hb2⟩
    obtain ⟨g, rfl⟩ := own_some hown (by simp)
    obtain ⟨A0, k0, x00, x01, x02, _⟩ := out_cells hown houts 0 _ rfl
    have H2 := Lib.hid (And.intro hown (And.intro houts (And.intro hgv hb2))); clear hown houts hgv hb2
    simp only [List.length_cons, List.length_nil, Nat.zero_mul, Nat.zero_add, Nat.reduceAdd] at x00 x01 x02 ⊢
    go_wp2_with fail
    go_ret
    exact ⟨rfl, law_below H1.out.2 H2.out.2.2.2⟩
  · have hos := pk_some k hk16 n hn ps ⟨zeros (wsize n), 0, []⟩ x l Hall.out.symm
    unfold pk at hos
    rw [hos] at hrun
    have HR := Lib.hid hrun; clear hrun hos
    obtain ⟨g1, rfl⟩ := own_some H1.out.1 (by simp)
    have hc1 := own_cap H1.out.1
    obtain ⟨N, hN⟩ : ∃ N, N = (x :: l).length := ⟨_, rfl⟩
    have hNl : N = l.length + 1 := by rw [hN]; rfl
    rw [← hN] at hab hc1 ⊢
    have HN := Lib.hid (And.intro hN hNl); clear hN hNl
    go_wp2_with fail
    refine HR.out.mono ?_
    rintro e w2 ⟨a, c2, gv, flat, rfl, hown, houts, hgv, hb2⟩
    obtain ⟨g, rfl⟩ := own_some hown (by simp)
    obtain ⟨A1, k1, x10, x11, x12, xr1⟩ := out_cells hown houts 1 _ rfl
    obtain ⟨A2, k2, x20, x21, x22, _⟩ := out_cells hown houts 2 _ rfl
    obtain ⟨A3, k3, x30, x31, x32, _⟩ := out_cells hown houts 3 _ rfl
    obtain ⟨A5, k5, x50, x51, x52, _⟩ := out_cells hown houts 5 _ rfl
    have hs1 := outs_cut hown houts 1 _ rfl
    have hs4 := outs_cut hown houts 4 _ rfl
    have hcap : 6 ≤ c2 := own_cap hown
    simp only at x10 x11 x12 xr1 x22 x32 x51 hs1 hs4
    obtain ⟨m, hm⟩ : ∃ m, m = min k l.length := ⟨_, rfl⟩
    obtain ⟨m2, hm2⟩ : ∃ m2, m2 = min (k + 1) l.length := ⟨_, rfl⟩
    obtain ⟨er, her⟩ : ∃ er, er = ended (decide (l.length < k)) := ⟨_, rfl⟩
    rw [← hm2] at x51
    rw [← her] at x12 hs1 hs4
    have htl : l.take k = l.take m := by
      rw [hm]
      rcases Nat.le_total k l.length with h | h
      · rw [Nat.min_eq_left h]
      · rw [Nat.min_eq_right h, List.take_of_length_le h, List.take_length]
    have hml : (l.take k).length = m := by rw [htl, List.length_take, hm]; omega
    obtain ⟨lt, hlt⟩ : ∃ lt, lt = l.take k := ⟨_, rfl⟩
    rw [← hlt] at x10 xr1 hs1 hs4 hml
    have hsame : ∀ (q c c' : Nat), Calls Tryd.prog 24 #[.slice (some ⟨g, 3, none⟩) 1 c, .slice (some ⟨g, 12, none⟩) 1 c'] (w2.drewN q) (fun e w' => e = .returned (.bool true) ∧ ∃ m, w' = (w2.drewN q).drewN m) :=
      fun q c c' => same24 _ _ c c' [⟨lt, 0, er⟩] (w2.drewN q) (hs1.drewN q) (hs4.drewN q) (by simp [Room])
    have hcells : ∀ j b, (x :: l)[j]? = some b → w2.cell? ⟨g1, j, none⟩ = some (bv b) := by
      intro j b hj
      have h1 := H1.out.1.cells (g := g1) rfl j (bv b) (by rw [bvs_get, hj]; rfl)
      have h2 := H1.out.1.lt g1 rfl
      rw [add_mk, Nat.zero_add] at h1
      refine (hb2.cell (p := ⟨g1, j, none⟩) ?_).trans ((World.cell?_alloc_lt w1 _ ⟨g1, j, none⟩ h2.2).trans h1)
      simp; omega
    have hrd : Reads w2 (g1 + 1) 1 (cutS (some ⟨g1, 0, none⟩) c1 1) m (bvs lt) := by
      refine ⟨by rw [bvs_length, hml, Nat.mul_one], fun h0 => ?_⟩
      have hl0 : 0 < l.length := by rw [hm] at h0; omega
      have hc : ¬ c1 = 1 := by have := HN.out.2; omega
      refine ⟨⟨g1, 1, none⟩, by unfold cutS; rw [if_neg hc]; simp [Addr.add], by simp, fun j u hj => ?_⟩
      rw [add_mk]
      rw [bvs_get] at hj
      obtain ⟨b, hb, rfl⟩ := Option.map_eq_some_iff.1 hj
      refine hcells (1 + j) b ?_
      rw [hlt, List.getElem?_take] at hb
      split at hb
      · rw [Nat.add_comm 1 j, List.getElem?_cons_succ]; exact hb
      · cases hb
    have q1 := fun q => conv_str (c := k1) (xr1.drewN q)
    have q2 := fun q => conv_str (c := c1 - 1) (show Reads (w2.drewN q) (g1 + 1) 1 (cutS (some ⟨g1, 0, none⟩) c1 1) lt.length (bvs lt) by rw [hml]; exact hrd.drewN q)
    rw [hml] at q1 q2 x10
    have hsl : ∀ w, (Instr.slice 25 (.slice (some ⟨g1, 0, none⟩) N c1) (some (.int .i64 1)) (some (.int .i64 (1 + (m : Int)))) none).run Tryd.prog w = .ok (.slice (cutS (some ⟨g1, 0, none⟩) c1 1) m (c1 - 1)) w := by
      intro w
      have := slice_part ⟨g1, 0, none⟩ N c1 1 (1 + m) (by omega) (by have := HN.out.2; omega) w
      rw [Nat.add_sub_cancel_left] at this
      have e : ((1 + m : Nat) : Int) = 1 + (m : Int) := by omega
      rw [e] at this
      exact this
    have hmk : m ≤ 16 := by omega
    have hmk2 : m2 ≤ 17 := by omega
    have hmn : m + 1 ≤ N := by have := HN.out.2; omega
    have hn1 : 1 ≤ N := by omega
    have hmin : min (k : Int) ((N : Int) - 1) = (m : Int) := by have := HN.out.2; omega
    have hmin2 : min ((k : Int) + 1) ((N : Int) - 1) = (m2 : Int) := by have := HN.out.2; omega
    have i1 : IntKind.i64.wrap ((N : Int) - 1) = (N : Int) - 1 := IntWalk.i64_in _ (by omega)
    have i2 : IntKind.i64.wrap (1 + (m : Int)) = 1 + (m : Int) := IntWalk.i64_in _ (by omega)
    have i3 : IntKind.i64.wrap ((k : Int) + 1) = (k : Int) + 1 := IntWalk.i64_in _ (by omega)
    have hne0 : ((N : Int) == 0) = false := by simp; omega
    have hq : (er = 0 ∧ m = k) ∨ (er = 1 ∧ m ≠ k) := by
      rw [her, hm]
      by_cases h : l.length < k
      · right; rw [decide_eq_true h]; exact ⟨rfl, by omega⟩
      · left; rw [decide_eq_false h]; exact ⟨rfl, by omega⟩
    have H2 := Lib.hid (And.intro hown (And.intro houts (And.intro hgv hb2))); clear hown houts hgv hb2 hs1 hs4
    have HS := Lib.hid hsame; clear hsame
    have g2 : (2 : Int) ≤ (c2 : Int) := by omega
    have g5 : (5 : Int) ≤ (c2 : Int) := by omega
    have g3 : ¬ c2 = 1 := by omega
    have g4 : ¬ c2 = 4 := by omega
    clear hrd hcells xr1 hml htl hlt hm hm2 her
    simp only [List.length_cons, List.length_nil, Nat.zero_add, Nat.one_mul, Nat.reduceAdd, Nat.reduceMul] at x10 x11 x12 x20 x21 x22 x30 x31 x32 x50 x51 x52 ⊢
    rcases hq with ⟨rfl, rfl⟩ | ⟨rfl, hmk3⟩
    · go_wp2_with fail
      go_quiet (first | (go_at_call 24; exact Calls.quiet_of (HS.out _ _ _)))
      go_wp2_with fail
      go_ret
      exact ⟨rfl, below_drewN (law_below H1.out.2 H2.out.2.2.2) _⟩
    · have hmk4 : ((m : Int) == (k : Int)) = false := by simp; omega
      clear hmk3
      go_wp2_with fail
      go_quiet (first | (go_at_call 24; exact Calls.quiet_of (HS.out _ _ _)))
      go_wp2_with fail
      go_ret
      exact ⟨rfl, below_drewN (law_below H1.out.2 H2.out.2.2.2) _⟩
end Go.Proofs.YtancmlapnhccdaaDoor
