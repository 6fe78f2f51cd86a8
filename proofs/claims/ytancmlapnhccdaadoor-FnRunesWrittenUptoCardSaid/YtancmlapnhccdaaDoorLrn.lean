/- laws.FnRun, laws.FnSink, laws.FnSizes: the walks. -/
import Derived.Test.YtancmlapnhccdaaDoorSpi
import Derived.Test.YtancmlapnhccdaaDoorSam
namespace Go.Proofs.YtancmlapnhccdaaDoor
open Go.RowKit

theorem own_nil {w : World} {N n size c : Nat} {e : TypeId} {a : Option Addr} {xs : List Value} (h : w.ownsRow N e size (.slice a n c) n xs) : a = none → c = 0 := by
  intro ha
  rcases h.2 with ⟨hv, _⟩ | ⟨g, cap, cur, hv, _⟩
  · injection hv
  · rw [ha] at hv
    injection hv with hv
    cases hv
theorem run_at (E : Nat → Addr) (n : Nat) (hn : n ≤ 255) (A : Option Addr) (c : Nat) (ps : List (List UInt8)) (A2 : Option Addr) (c2 : Nat) (cs : List CallD) {w w1 : World} (hE : Env w w.heap.size E) (ht : Lib.Utf8Tabs 9 10 w) (hp : PiecesAt w w.heap.size A ps) (hc : CallsAt w w.heap.size A2 cs)
    (hroom : Room (ps.flatten.length + 255)) (hl : Room ps.length) (hcl : Room (callsLen cs)) (hb : Below w.heap.size w w1) :
    Calls Tryd.prog 23 #[.int .u8 (n : Nat), .slice A ps.length c, .slice A2 cs.length c2] w1 (Ran (runM (newReader (rsize n) ps) ⟨zeros (wsize n), 0, []⟩ cs).2.2 (runM (newReader (rsize n) ps) ⟨zeros (wsize n), 0, []⟩ cs).2.1.got w1) := by
  have hc1 : CallsAt w1 w1.heap.size A2 cs := by
    obtain ⟨vs, h1, h2⟩ := hc.below hb
    refine ⟨vs, h1.more hb.size, fun j c hj => ?_⟩
    obtain ⟨h0, Ab, kb, h3, h4⟩ := h2 j c hj
    exact ⟨h0, Ab, kb, h3.more hb.size, h4⟩
  exact run23 E n hn A c ps A2 c2 cs w1 ((hE.below hb).more hb.size) (tabs_keep ht (Keep.ofBelow hb (fun _ => False)) (fun _ h => h.elim) hE.five) ((hp.below hb).more hb.size) hc1 hroom hl hcl
theorem CallsAt.more {w : World} {B B' : Nat} {A : Option Addr} {cs : List CallD} (h : CallsAt w B A cs) (hB : B ≤ B') : CallsAt w B' A cs := by
  obtain ⟨vs, h1, h2⟩ := h
  refine ⟨vs, h1.more hB, fun j c hj => ?_⟩
  obtain ⟨h0, Ab, kb, h3, h4⟩ := h2 j c hj
  exact ⟨h0, Ab, kb, h3.more hB, h4⟩
theorem outs_sl {w : World} {N n c : Nat} {X : Nat → Prop} {A : Option Addr} {os : List OutD} {flat : List Value} (hn : n = os.length) (ho : w.ownsRow N 36 3 (.slice A n c) n flat) (hx : OutsAt w X flat os) : OutsSl w A os := by
  subst hn
  exact ⟨flat, Reads.of_own ho, hx.keep (Keep.refl (fun _ => False) _) (fun _ h => h.elim) (fun _ h => h.elim)⟩
theorem below2 {w w1 w2 : World} (h1 : Below w.heap.size w w1) (h2 : Below w1.heap.size w1 w2) : Below w.heap.size w w2 := h1.trans (h2.mono h1.size)

set_option maxRecDepth 100000 in
set_option maxHeartbeats 1000000 in
theorem law17 (E : Nat → Addr) (n : Nat) (hn : n ≤ 255) (A : Option Addr) (c : Nat) (ps : List (List UInt8)) (A2 : Option Addr) (c2 : Nat) (cs : List CallD) (w : World) (hE : Env w w.heap.size E) (ht : Lib.Utf8Tabs 9 10 w) (hp : PiecesAt w w.heap.size A ps) (hc : CallsAt w w.heap.size A2 cs) (hroom : Room (ps.flatten.length + 255)) (hl : Room ps.length) (hcl : Room (callsLen cs + 1000)) :
    Calls Tryd.prog 17 #[.int .u8 (n : Nat), .slice A ps.length c, .slice A2 cs.length c2] w (LawTrue w) := by
  obtain ⟨all, hall⟩ : ∃ all, all = ps.flatten := ⟨_, rfl⟩
  have Hall := Lib.hid hall; clear hall
  have HE := Lib.hid (And.intro hE (And.intro ht (And.intro hp (And.intro hroom (And.intro hl (And.intro hc (hcl.mono (Nat.le_add_right _ _)))))))); clear hE hp hroom hl ht hc hcl
  go_enter Tryd.func17, Tryd.ntmps17
  go_wp2_with fail
  refine (joined22 A c ps w HE.out.2.2.1 (HE.out.2.2.2.1.mono (by omega)) HE.out.2.2.2.2.1).mono ?_
  rintro e w1 ⟨v1, rfl, hown1, hb1⟩
  rw [← Hall.out] at hown1
  obtain ⟨a1, c1, rfl⟩ := own_slice hown1
  have H1 := Lib.hid (And.intro hown1 hb1); clear hown1 hb1
  have hans := answers21 a1 c1 all A2 c2 cs w1 (Reads.of_own H1.out.1) (own_cap H1.out.1) (own_nil H1.out.1) ((HE.out.2.2.2.2.2.1.below H1.out.2).more H1.out.2.size) (by rw [Hall.out]; exact HE.out.2.2.2.1.mono (by omega)) HE.out.2.2.2.2.2.2
  have HA := Lib.hid hans; clear hans
  go_wp2_with fail
  refine HA.out.mono ?_
  rintro e w2 ⟨a2, k2, v2, flat2, rfl, hown2, houts2, hall2, hb2⟩
  obtain ⟨a, ha⟩ : ∃ a, a = (as0 all).run cs := ⟨_, rfl⟩
  rw [← ha] at houts2 hall2 ⊢
  obtain ⟨a3, k3, rfl⟩ := own_slice hall2
  have hlen : a.outs.length = cs.length := by rw [ha, AS.run_len]; simp [as0]
  have htold : a.told = true → (runM (newReader (rsize n) ps) ⟨zeros (wsize n), 0, []⟩ cs).2.2 = a.outs := by
    intro h
    rw [ha, Hall.out] at h ⊢
    exact told_new n hn ps _ cs h
  have hos := outs_sl hlen.symm hown2 houts2
  have hb12 := below2 H1.out.2 hb2
  have hrun := run_at E n hn A c ps A2 c2 cs HE.out.1 HE.out.2.1 HE.out.2.2.1 HE.out.2.2.2.2.2.1 HE.out.2.2.2.1 HE.out.2.2.2.2.1 HE.out.2.2.2.2.2.2 hb12
  have H2 := Lib.hid (And.intro hos (And.intro hb12 (And.intro hrun (And.intro hlen htold)))); clear hown2 houts2 hall2 hb2 hos hb12 hrun hlen htold ha
  obtain ⟨ar, ao, aa, af, at_⟩ := a
  simp only at H2 ⊢
  rcases at_ with _ | _
  · go_wp2_with fail
    refine H2.out.2.2.1.mono ?_
    rintro e w3 ⟨a4, k4, gv, flat4, rfl, hown4, houts4, hgv, hb4⟩
    have H3 := Lib.hid hb4; clear hown4 houts4 hgv hb4
    go_wp2_with fail
    go_ret
    exact ⟨rfl, below2 H2.out.2.1 H3.out⟩
  · have hr := H2.out.2.2.1
    rw [H2.out.2.2.2.2 rfl] at hr
    have HR := Lib.hid hr; clear hr
    go_wp2_with fail
    refine HR.out.mono ?_
    rintro e w3 ⟨a4, k4, gv, flat4, rfl, hown4, houts4, hgv, hb4⟩
    have hs := same24 a4 a2 k4 k2 ao w3 (outs_sl rfl hown4 houts4) (H2.out.1.below hb4) (HE.out.2.2.2.2.2.2.mono (by rw [H2.out.2.2.2.1]; exact callsLen_ge cs))
    have hle := H2.out.2.2.2.1
    rw [hle] at hs ⊢
    have H3 := Lib.hid (And.intro hb4 hs); clear hown4 houts4 hgv hb4 hs hle
    go_wp2_with fail
    refine H3.out.2.mono ?_
    rintro e w4 ⟨rfl, k, rfl⟩
    go_wp2_with fail
    go_ret
    exact ⟨rfl, below_drewN (below2 H2.out.2.1 H3.out.1) _⟩
end Go.Proofs.YtancmlapnhccdaaDoor
