/- laws.FnOtherKinds: the walk. -/
import Derived.Test.YtancmlapnhccdaaDoorSam
namespace Go.Proofs.YtancmlapnhccdaaDoor
open Go.RowKit

theorem ok_outs (n : Nat) (hn : n ≤ 255) (ps : List (List UInt8)) (t : WS) (m : Nat) (kd : Int) (hm : m = ps.flatten.length) (hk : ¬ (0 ≤ kd ∧ kd ≤ 12)) :
    (runM (newReader (rsize n) ps) t (bares [(kd, 0), (5, ((m : Nat) : Int) + 1)])).2.2 = [noOut, ⟨[], ((m : Nat) : Int), 1⟩] ∧ (runM (newReader (rsize n) ps) t (bares [(kd, 0), (5, ((m : Nat) : Int) + 1)])).2.1 = t := by
  have h1 : ¬ ((m : Nat) : Int) + 1 < 0 := by omega
  have h2 : ¬ ((m : Nat) : Int) + 1 = 0 := by omega
  have h3 : (((m : Nat) : Int) + 1).toNat = m + 1 := by omega
  have hr : ((sr0 ps.flatten).run (bares [(5, ((m : Nat) : Int) + 1)])) = ([⟨[], ((m : Nat) : Int), 1⟩], true) := by
    simp [SR.run, bares, bare, SR.call, sr0, h1, h2, h3, SR.rest, ended, ← hm, -List.length_flatten]
  have hx := run_agree (bares [(5, ((m : Nat) : Int) + 1)]) (sr0 ps.flatten) (newReader (rsize n) ps) t (agree_new n hn ps) (by simp [bares, bare, isRd]) (by rw [hr])
  have hc : callM (newReader (rsize n) ps) t (bare kd 0) = (newReader (rsize n) ps, t, noOut) := by
    unfold callM
    rw [if_neg (by simp only [bare, isRd]; omega), if_neg (by simp only [bare, isWr]; omega)]
  have hb : bares [(kd, 0), (5, ((m : Nat) : Int) + 1)] = bare kd 0 :: bares [(5, ((m : Nat) : Int) + 1)] := rfl
  rw [hb]
  simp only [runM, hc]
  rw [hx, hr]
  refine ⟨rfl, ?_⟩
  have hb2 : bares [(5, ((m : Nat) : Int) + 1)] = bare 5 (((m : Nat) : Int) + 1) :: [] := rfl
  rw [hb2]
  simp only [runM]
  unfold callM
  rw [if_pos (by simp [bare, isRd])]

set_option maxRecDepth 100000 in
set_option maxHeartbeats 1000000 in
theorem law13 (E : Nat → Addr) (n : Nat) (hn : n ≤ 255) (A : Option Addr) (c : Nat) (ps : List (List UInt8)) (kd : Int) (hkd : -9223372036854775808 ≤ kd ∧ kd ≤ 9223372036854775807) (w : World) (hE : Env w w.heap.size E) (ht : Lib.Utf8Tabs 9 10 w) (hp : PiecesAt w w.heap.size A ps) (hroom : Room (ps.flatten.length + 255)) (hl : Room ps.length) :
    Calls Tryd.prog 13 #[.int .u8 (n : Nat), .slice A ps.length c, .int .i64 kd] w (LawTrue w) := by
  obtain ⟨m, hm⟩ : ∃ m, m = ps.flatten.length := ⟨_, rfl⟩
  have hmb : m ≤ 1000000000 := by rw [hm]; exact Nat.le_trans (by omega) hroom
  have Hm := Lib.hid hm; clear hm
  have HE := Lib.hid (And.intro hE (And.intro ht (And.intro hp (And.intro hroom hl)))); clear hE hp hroom hl ht
  go_enter Tryd.func13, Tryd.ntmps13
  go_wp2_with fail
  refine (joined22 A c ps w HE.out.2.2.1 (HE.out.2.2.2.1.mono (by omega)) HE.out.2.2.2.2).mono ?_
  rintro e w1 ⟨v1, rfl, hown1, hb1⟩
  rw [← Hm.out] at hown1
  obtain ⟨a1, c1, rfl⟩ := own_slice hown1
  have H1 := Lib.hid (And.intro hown1 hb1); clear hown1 hb1
  have hrun := run_bares E n hn A c ps [(kd, 0), (5, (m : Int) + 1)] HE.out.1 HE.out.2.1 HE.out.2.2.1 HE.out.2.2.2.1 HE.out.2.2.2.2 H1.out.2 (by simp; omega) (by simp)
  have hw3 := IntWalk.wrap64_in ((m : Int) + 1) (by omega)
  by_cases hk : 0 ≤ kd ∧ kd ≤ 12
  · have hlen := runM_len (bares [(kd, 0), (5, ((m : Nat) : Int) + 1)]) (newReader (rsize n) ps) ⟨zeros (wsize n), 0, []⟩
    generalize (runM (newReader (rsize n) ps) ⟨zeros (wsize n), 0, []⟩ (bares [(kd, 0), (5, ((m : Nat) : Int) + 1)])).2.2 = os at hrun hlen
    generalize (runM (newReader (rsize n) ps) ⟨zeros (wsize n), 0, []⟩ (bares [(kd, 0), (5, ((m : Nat) : Int) + 1)])).2.1.got = got at hrun
    have hl2 : os.length = 2 := by rw [hlen]; rfl
    have HR := Lib.hid hrun; clear hrun hlen
    obtain ⟨hk0, hk12⟩ := hk
    have hg0 : decide (kd ≥ 0) = true := by simpa using hk0
    have hg1 : decide (kd ≤ 12) = true := by simpa using hk12
    go_wp2_with fail
    refine HR.out.mono ?_
    rintro e w2 ⟨a, c2, gv, flat, rfl, hown, houts, hgv, hb2⟩
    rw [hl2] at hown ⊢
    have H2 := Lib.hid hb2; clear hown houts hgv hb2
    go_wp2_with fail
    go_ret
    exact ⟨rfl, law_below H1.out.2 H2.out⟩
  · obtain ⟨ho1, ho2⟩ := ok_outs n hn ps ⟨zeros (wsize n), 0, []⟩ m kd Hm.out hk
    rw [ho1, ho2] at hrun
    have HR := Lib.hid hrun; clear hrun ho1 ho2
    have hno : decide (kd ≥ 0) = false ∨ (decide (kd ≥ 0) = true ∧ decide (kd ≤ 12) = false) := by
      by_cases h0 : kd ≥ 0
      · right; exact ⟨by simpa using h0, by simp; omega⟩
      · left; simpa using h0
    go_wp2_with fail
    refine HR.out.mono ?_
    rintro e w2 ⟨a, c2, gv, flat, rfl, hown, houts, hgv, hb2⟩
    obtain ⟨g, rfl⟩ := own_some hown (by simp)
    obtain ⟨ag, cg, rfl⟩ := own_slice hgv
    obtain ⟨A1, k1, x10, x11, x12, _⟩ := out_cells hown houts 1 _ rfl
    have hs0 := outs_cut hown houts 0 _ rfl
    have hcap : 2 ≤ c2 := own_cap hown
    have hsame := fun c c' => same24 _ _ c c' [noOut] _ (hs0.below ((Below.refl _ _).alloc (Nat.le_refl _) _)) (outs_zero w2) (by simp [Room])
    have y11 := (World.cell?_alloc_lt w2 (.cells #[.slice none 0 0, .int .i64 0, .int .i64 0] 36) ⟨g, 1 * 3 + 1, none⟩ (hown.lt g rfl).2).trans x11
    have H2 := Lib.hid (And.intro hsame hb2); clear hown houts hgv hb2 hs0 hsame x10 x11 x12
    have hc1 : (1 : Int) ≤ (c2 : Int) := by omega
    simp only [List.length_cons, List.length_nil, Nat.zero_add, Nat.one_mul, Nat.reduceAdd] at y11 ⊢
    rcases hno with h0 | ⟨h0, h1⟩
    · go_wp2_with fail
      refine (H2.out.1 _ _).mono ?_
      rintro e w3 ⟨rfl, k, rfl⟩
      have z11 : ((w2.alloc (.cells #[.slice none 0 0, .int .i64 0, .int .i64 0] 36)).drewN k).cell? ⟨g, 4, none⟩ = _ := y11
      go_wp2_with fail
      go_ret
      exact ⟨rfl, below_drewN ((law_below H1.out.2 H2.out.2).alloc (law_below H1.out.2 H2.out.2).size _) _⟩
    · go_wp2_with fail
      refine (H2.out.1 _ _).mono ?_
      rintro e w3 ⟨rfl, k, rfl⟩
      have z11 : ((w2.alloc (.cells #[.slice none 0 0, .int .i64 0, .int .i64 0] 36)).drewN k).cell? ⟨g, 4, none⟩ = _ := y11
      go_wp2_with fail
      go_ret
      exact ⟨rfl, below_drewN ((law_below H1.out.2 H2.out.2).alloc (law_below H1.out.2 H2.out.2).size _) _⟩
end Go.Proofs.YtancmlapnhccdaaDoor
