/- laws.FnWriteTo: the walk. -/
import Derived.Test.YtancmlapnhccdaaDoorIwt
namespace Go.Proofs.YtancmlapnhccdaaDoor
open Go.RowKit

/-- a law's answer: true, and what lay there is as it was -/
def LawTrue (w : World) (e : Ending) (w' : World) : Prop := e = .returned (.bool true) ∧ Below w.heap.size w w'

set_option maxRecDepth 100000 in
set_option maxHeartbeats 1000000 in
theorem law6 (E : Nat → Addr) (n : Nat) (hn : n ≤ 255) (A : Option Addr) (c : Nat) (ps : List (List UInt8)) (w : World) (hE : Env w w.heap.size E) (hp : PiecesAt w w.heap.size A ps) (hroom : Room (ps.flatten.length + 255)) (hl : Room ps.length) :
    Calls Tryd.prog 6 #[.int .u8 (n : Nat), .slice A ps.length c] w (LawTrue w) := by
  obtain ⟨all, hall⟩ : ∃ all, all = ps.flatten := ⟨_, rfl⟩
  have Hall := Lib.hid hall; clear hall
  have HE := Lib.hid (And.intro hE (And.intro hp (And.intro hroom hl))); clear hE hp hroom hl
  go_enter Tryd.func6, Tryd.ntmps6
  go_wp2_with fail
  refine (joined22 A c ps w HE.out.2.1 (HE.out.2.2.1.mono (by omega)) HE.out.2.2.2).mono ?_
  rintro e w1 ⟨v1, rfl, hown1, hb1⟩
  rw [← Hall.out] at hown1
  obtain ⟨a1, c1, rfl⟩ := own_slice hown1
  have H1 := Lib.hid (And.intro hown1 hb1); clear hown1 hb1
  go_wp2_with fail
  refine (writeTo25 E n hn A c ps w1 ((HE.out.1.below H1.out.2).more H1.out.2.size) ((HE.out.2.1.below H1.out.2).more H1.out.2.size) HE.out.2.2.1 HE.out.2.2.2).mono ?_
  rintro e w2 ⟨v2, rfl, hown2, hb2⟩
  rw [← Hall.out] at hown2 ⊢
  obtain ⟨a2, c2, rfl⟩ := own_slice hown2
  have hown1 := own_keep H1.out.1 (Keep.ofBelow hb2 (fun _ => False)) (fun _ _ h => h)
  have H2 := Lib.hid hb2; clear hb2
  have q1 := conv_str (c := c1) (Reads.of_own hown1)
  have q2 := conv_str (c := c2) (Reads.of_own hown2)
  clear hown1 hown2
  generalize all.length = m at q1 q2 ⊢
  go_wp2_with fail
  go_ret
  exact ⟨rfl, H1.out.2.trans (H2.out.mono H1.out.2.size)⟩
end Go.Proofs.YtancmlapnhccdaaDoor
