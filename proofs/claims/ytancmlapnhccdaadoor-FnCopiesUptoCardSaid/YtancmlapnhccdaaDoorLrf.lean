/- laws.FnReadFrom: the walk. -/
import Derived.Test.YtancmlapnhccdaaDoorIrf
import Derived.Test.YtancmlapnhccdaaDoorLwt
import Derived.Laws.Concat
namespace Go.Proofs.YtancmlapnhccdaaDoor
open Go.RowKit

theorem strOf_append (a b : List UInt8) : strOf a ++ strOf b = strOf (a ++ b) := by
  apply ByteArray.ext
  simp [strOf]
set_option maxRecDepth 100000 in
set_option maxHeartbeats 1000000 in
theorem law7 (E : Nat → Addr) (n : Nat) (hn : n ≤ 255) (A : Option Addr) (c : Nat) (front : List UInt8) (A3 : Option Addr) (c3 : Nat) (ps : List (List UInt8)) (w : World) (hE : Env w w.heap.size E) (hf : Reads w w.heap.size 1 A front.length (bvs front)) (hp : PiecesAt w w.heap.size A3 ps) (hrf : Room (front.length * 100 + 1000)) (hroom : Room (100 * ps.flatten.length + 255)) (hl : Room ps.length) :
    Calls Tryd.prog 7 #[.int .u8 (n : Nat), .slice A front.length c, .slice A3 ps.length c3] w (LawTrue w) := by
  obtain ⟨all, hall⟩ : ∃ all, all = ps.flatten := ⟨_, rfl⟩
  have hrl : 100 * all.length + 255 ≤ 1000000000 ∧ front.length * 100 + 1000 ≤ 1000000000 := by rw [hall]; exact ⟨hroom, hrf⟩
  have Hall := Lib.hid hall; clear hall
  have HE := Lib.hid (And.intro hE (And.intro hf (And.intro hp (And.intro (hroom.mono (show ps.flatten.length ≤ _ by omega)) hl)))); clear hE hf hp hroom hl hrf
  go_enter Tryd.func7, Tryd.ntmps7
  go_wp2_with fail
  refine (joined22 A3 c3 ps w HE.out.2.2.1 HE.out.2.2.2.1 HE.out.2.2.2.2).mono ?_
  rintro e w1 ⟨v1, rfl, hown1, hb1⟩
  rw [← Hall.out] at hown1
  obtain ⟨a1, c1, rfl⟩ := own_slice hown1
  have hr := readFrom26 E n hn A c front A3 c3 ps w1 ((HE.out.1.below hb1).more hb1.size) ((HE.out.2.1.below hb1).more hb1.size) ((HE.out.2.2.1.below hb1).more hb1.size) (by rw [← Hall.out]; unfold Room; omega) HE.out.2.2.2.2
  rw [← Hall.out] at hr
  have H1 := Lib.hid (And.intro hown1 (And.intro hb1 hr)); clear hown1 hb1 hr
  go_wp2_with fail
  refine H1.out.2.2.mono ?_
  rintro e w2 ⟨v2, rfl, hown2, hb2⟩
  obtain ⟨a2, c2, rfl⟩ := own_slice hown2
  have hown1 := own_keep H1.out.1 (Keep.ofBelow hb2 (fun _ => False)) (fun _ _ h => h)
  have hb12 := below2' H1.out.2.1 hb2
  have q0 := conv_str (c := c) (HE.out.2.1.below hb12)
  have q1 := conv_str (c := c1) (Reads.of_own hown1)
  have q2 := conv_str (c := c2) (Reads.of_own hown2)
  have hadd : ∀ w, (Op.stringOp .add (strOf front) (strOf all)).run Tryd.prog w = .ok (.string (strOf (front ++ all))) w := by
    intro w
    rw [← strOf_append]
    exact run_string_add_sum _ _ _ (by rw [strOf_size, strOf_size]; omega)
  have H2 := Lib.hid hb12; clear hown1 hown2 hb2 hb12
  generalize (front ++ all).length = m2 at q2 ⊢
  generalize all.length = m at q1 ⊢
  generalize front.length = m0 at q0 ⊢
  go_wp2_with fail
  go_ret
  exact ⟨rfl, H2.out⟩
end Go.Proofs.YtancmlapnhccdaaDoor
