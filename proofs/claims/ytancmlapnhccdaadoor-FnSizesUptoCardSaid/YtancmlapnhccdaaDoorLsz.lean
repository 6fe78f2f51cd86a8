/- laws.FnSizes: the walk. -/
import Derived.Test.YtancmlapnhccdaaDoorLrn
namespace Go.Proofs.YtancmlapnhccdaaDoor
open Go.RowKit

set_option maxRecDepth 100000 in
set_option maxHeartbeats 1000000 in
theorem law3 (E : Nat → Addr) (n : Nat) (hn : n ≤ 255) (n' : Nat) (hn' : n' ≤ 255) (A : Option Addr) (c : Nat) (ps : List (List UInt8)) (A2 : Option Addr) (c2 : Nat) (cs : List CallD) (w : World) (hE : Env w w.heap.size E) (ht : Lib.Utf8Tabs 9 10 w) (hp : PiecesAt w w.heap.size A ps) (hc : CallsAt w w.heap.size A2 cs) (hroom : Room (ps.flatten.length + 255)) (hl : Room ps.length) (hcl : Room (callsLen cs + 1000)) :
    Calls Tryd.prog 3 #[.int .u8 (n : Nat), .int .u8 (n' : Nat), .slice A ps.length c, .slice A2 cs.length c2] w (LawTrue w) := by
  obtain ⟨all, hall⟩ : ∃ all, all = ps.flatten := ⟨_, rfl⟩
  have Hall := Lib.hid hall; clear hall
  have HE := Lib.hid (And.intro hE (And.intro ht (And.intro hp (And.intro hroom (And.intro hl (And.intro hc (hcl.mono (Nat.le_add_right _ _)))))))); clear hE hp hroom hl ht hc hcl
  go_enter Tryd.func3, Tryd.ntmps3
  go_wp2_with fail
  refine (joined22 A c ps w HE.out.2.2.1 (HE.out.2.2.2.1.mono (by omega)) HE.out.2.2.2.2.1).mono ?_
  rintro e w1 ⟨v1, rfl, hown1, hb1⟩
  rw [← Hall.out] at hown1
  obtain ⟨a1, c1, rfl⟩ := own_slice hown1
  have H1 := Lib.hid (And.intro hown1 hb1); clear hown1 hb1
  have hans := answers21 a1 c1 all A2 c2 cs w1 (Reads.of_own H1.out.1) (own_cap H1.out.1) (own_nil H1.out.1) ((HE.out.2.2.2.2.2.1.below H1.out.2).more H1.out.2.size) (by rw [Hall.out]; exact HE.out.2.2.2.1.mono (by omega)) HE.out.2.2.2.2.2.2
  have HA := Lib.hid hans; clear hans
  go_wp2_with fail
  refine HA.out.mono ?_
  rintro e w2 ⟨a2, k2, v2, flat2, rfl, hown2, houts2, hall2, hb2⟩
  obtain ⟨a, ha⟩ : ∃ a, a = (as0 all).run cs := ⟨_, rfl⟩
  rw [← ha] at houts2 hall2 ⊢
  obtain ⟨a3, k3, rfl⟩ := own_slice hall2
  have hlen : a.outs.length = cs.length := by rw [ha, AS.run_len]; simp [as0]
  have htold : a.told = true → (runM (newReader (rsize n) ps) ⟨zeros (wsize n), 0, []⟩ cs).2.2 = a.outs := by
    intro h
    rw [ha, Hall.out] at h ⊢
    exact told_new n hn ps _ cs h
  have htold' : a.told = true → (runM (newReader (rsize n') ps) ⟨zeros (wsize n'), 0, []⟩ cs).2.2 = a.outs := by
    intro h
    rw [ha, Hall.out] at h ⊢
    exact told_new n' hn' ps _ cs h
  have hb12 := below2 H1.out.2 hb2
  have hrun := run_at E n hn A c ps A2 c2 cs HE.out.1 HE.out.2.1 HE.out.2.2.1 HE.out.2.2.2.2.2.1 HE.out.2.2.2.1 HE.out.2.2.2.2.1 HE.out.2.2.2.2.2.2 hb12
  have hl1 := runM_len cs (newReader (rsize n) ps) ⟨zeros (wsize n), 0, []⟩
  have H2 := Lib.hid (And.intro hb12 (And.intro hrun (And.intro hlen (And.intro htold (And.intro htold' hl1))))); clear hown2 houts2 hall2 hb2 hb12 hrun hlen htold htold' ha hl1
  obtain ⟨ar, ao, aa, af, at_⟩ := a
  simp only at H2 ⊢
  rcases at_ with _ | _
  · have hr := H2.out.2.1
    have hlr := H2.out.2.2.2.2.2
    generalize (runM (newReader (rsize n) ps) ⟨zeros (wsize n), 0, []⟩ cs).2.2 = os at hr hlr
    have HR := Lib.hid hr; clear hr
    go_wp2_with fail
    refine HR.out.mono ?_
    rintro e w3 ⟨a4, k4, gv, flat4, rfl, hown4, houts4, hgv, hb4⟩
    rw [hlr]
    have hb13 := below2 H2.out.1 hb4
    have hrun := run_at E n' hn' A c ps A2 c2 cs HE.out.1 HE.out.2.1 HE.out.2.2.1 HE.out.2.2.2.2.2.1 HE.out.2.2.2.1 HE.out.2.2.2.2.1 HE.out.2.2.2.2.2.2 hb13
    have H3 := Lib.hid (And.intro hb13 hrun); clear hown4 houts4 hgv hb4 hb13 hrun hlr
    go_wp2_with fail
    refine H3.out.2.mono ?_
    rintro e w5 ⟨a5, k5, gv5, flat5, rfl, hown5, houts5, hgv5, hb5⟩
    have H5 := Lib.hid hb5; clear hown5 houts5 hgv5 hb5
    generalize cs.length = cl at *
    go_wp2_with fail
    go_ret
    exact ⟨rfl, below2 H3.out.1 H5.out⟩
  · have hr := H2.out.2.1
    rw [H2.out.2.2.2.1 (by first | rfl | trivial)] at hr
    have HR := Lib.hid hr; clear hr
    go_wp2_with fail
    refine HR.out.mono ?_
    rintro e w3 ⟨a4, k4, gv, flat4, rfl, hown4, houts4, hgv, hb4⟩
    have hb13 := below2 H2.out.1 hb4
    have hrun := run_at E n' hn' A c ps A2 c2 cs HE.out.1 HE.out.2.1 HE.out.2.2.1 HE.out.2.2.2.2.2.1 HE.out.2.2.2.1 HE.out.2.2.2.2.1 HE.out.2.2.2.2.2.2 hb13
    rw [H2.out.2.2.2.2.1 (by first | rfl | trivial)] at hrun
    have hs4 := outs_sl rfl hown4 houts4
    have hle := H2.out.2.2.1
    rw [hle]
    have H3 := Lib.hid (And.intro hb13 (And.intro hrun hs4)); clear hown4 houts4 hgv hb4 hb13 hrun hs4 hle
    go_wp2_with fail
    refine H3.out.2.1.mono ?_
    rintro e w5 ⟨a5, k5, gv5, flat5, rfl, hown5, houts5, hgv5, hb5⟩
    have hs := same24 a4 a5 k4 k5 ao w5 (H3.out.2.2.below hb5) (outs_sl rfl hown5 houts5) (HE.out.2.2.2.2.2.2.mono (by rw [H2.out.2.2.1]; exact callsLen_ge cs))
    have hle := H2.out.2.2.1
    rw [hle] at hs ⊢
    have H5 := Lib.hid (And.intro hb5 hs); clear hown5 houts5 hgv5 hb5 hs hle
    generalize cs.length = cl at *
    go_wp2_with fail
    refine H5.out.2.mono ?_
    rintro e w6 ⟨rfl, k, rfl⟩
    go_wp2_with fail
    go_ret
    exact ⟨rfl, below_drewN (below2 H3.out.1 H5.out.1) _⟩
end Go.Proofs.YtancmlapnhccdaaDoor
