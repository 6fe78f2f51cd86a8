/- laws.FnSink: the walk. -/
import Derived.Test.YtancmlapnhccdaaDoorLrn
namespace Go.Proofs.YtancmlapnhccdaaDoor
open Go.RowKit

set_option maxRecDepth 100000 in
set_option maxHeartbeats 1000000 in
theorem law20 (E : Nat → Addr) (n : Nat) (hn : n ≤ 255) (A : Option Addr) (c : Nat) (ps : List (List UInt8)) (A2 : Option Addr) (c2 : Nat) (cs : List CallD) (w : World) (hE : Env w w.heap.size E) (ht : Lib.Utf8Tabs 9 10 w) (hp : PiecesAt w w.heap.size A ps) (hc : CallsAt w w.heap.size A2 cs) (hroom : Room (ps.flatten.length + 255)) (hl : Room ps.length) (hcl : Room (callsLen cs + 1000)) :
    Calls Tryd.prog 20 #[.int .u8 (n : Nat), .slice A ps.length c, .slice A2 cs.length c2] w (LawTrue w) := by
  obtain ⟨all, hall⟩ : ∃ all, all = ps.flatten := ⟨_, rfl⟩
  have Hall := Lib.hid hall; clear hall
  have HE := Lib.hid (And.intro hE (And.intro ht (And.intro hp (And.intro hroom (And.intro hl (And.intro hc (hcl.mono (Nat.le_add_right _ _)))))))); clear hE hp hroom hl ht hc hcl
  go_enter Tryd.func20, Tryd.ntmps20
  go_wp2_with fail
  refine (joined22 A c ps w HE.out.2.2.1 (HE.out.2.2.2.1.mono (by omega)) HE.out.2.2.2.2.1).mono ?_
  rintro e w1 ⟨v1, rfl, hown1, hb1⟩
  rw [← Hall.out] at hown1
  obtain ⟨a1, c1, rfl⟩ := own_slice hown1
  have H1 := Lib.hid (And.intro hown1 hb1); clear hown1 hb1
  have hans := answers21 a1 c1 all A2 c2 cs w1 (Reads.of_own H1.out.1) (own_cap H1.out.1) (own_nil H1.out.1) ((HE.out.2.2.2.2.2.1.below H1.out.2).more H1.out.2.size) (by rw [Hall.out]; exact HE.out.2.2.2.1.mono (by omega)) HE.out.2.2.2.2.2.2
  have HA := Lib.hid hans; clear hans
  go_wp2_with fail
  refine HA.out.mono ?_
  rintro e w2 ⟨a2, k2, v2, flat2, rfl, hown2, houts2, hall2, hb2⟩
  have hsink := sink_new n (newReader (rsize n) ps) all cs
  have hb12 := below2 H1.out.2 hb2
  have hrun := run_at E n hn A c ps A2 c2 cs HE.out.1 HE.out.2.1 HE.out.2.2.1 HE.out.2.2.2.2.2.1 HE.out.2.2.2.1 HE.out.2.2.2.2.1 HE.out.2.2.2.2.2.2 hb12
  have hlr := runM_len cs (newReader (rsize n) ps) ⟨zeros (wsize n), 0, []⟩
  generalize (runM (newReader (rsize n) ps) ⟨zeros (wsize n), 0, []⟩ cs).2.1.got = got at hsink hrun
  generalize (runM (newReader (rsize n) ps) ⟨zeros (wsize n), 0, []⟩ cs).2.2 = os at hrun hlr
  generalize (as0 all).run cs = a at *
  obtain ⟨more, hmore, hfl⟩ := hsink
  obtain ⟨ar, ao, aa, af, at_⟩ := a
  simp only at hmore hfl hall2 ⊢
  subst hmore
  obtain ⟨a3, k3, rfl⟩ := own_slice hall2
  have hl3 := own_cap hall2
  have hn3 := own_nil hall2
  obtain ⟨m, hm⟩ : ∃ m, m = (got ++ more).length := ⟨_, rfl⟩
  rw [← hm] at hall2 hl3 ⊢
  have hgm : got.length ≤ m := by rw [hm, List.length_append]; omega
  have Hm := Lib.hid hm; clear hm
  have H2 := Lib.hid (And.intro hall2 (And.intro hb12 (And.intro hrun hlr))); clear hown2 houts2 hall2 hb2 hb12 hrun hlr
  go_wp2_with fail
  refine H2.out.2.2.1.mono ?_
  rintro e w3 ⟨a4, k4, gv, flat4, rfl, hown4, houts4, hgv, hb4⟩
  rw [H2.out.2.2.2]
  obtain ⟨ag, cg, rfl⟩ := own_slice hgv
  have hown2 := own_keep H2.out.1 (Keep.ofBelow hb4 (fun _ => False)) (fun _ _ h => h)
  have hr2 := (Reads.of_own hown2).take got.length hgm
  rw [List.take_append_of_le_length (Nat.le_refl _), List.take_length] at hr2
  have q1 := fun m => conv_str (c := cg) ((Reads.of_own hgv).drewN m)
  have q2 := fun m => conv_str (c := k3) (hr2.drewN m)
  have hsl := slice_to a3 m k3 got.length (by omega) hn3
  have g1 : decide (af ≤ got.length) = true := by simpa using hfl
  have g2 : decide (got.length ≤ m) = true := by simpa using hgm
  have H3 := Lib.hid hb4; clear hown4 houts4 hgv hb4 hr2 hown2 hl3 hn3 hfl
  generalize got.length = gl at *
  generalize cs.length = cl at *
  go_wp2_with fail
  go_quiet (fail)
  go_wp2_with fail
  go_ret
  exact ⟨rfl, below_drewN (below2 H2.out.2.1 H3.out) _⟩
end Go.Proofs.YtancmlapnhccdaaDoor
