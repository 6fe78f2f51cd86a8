/- laws.FnCopies: the walk. -/
import Derived.Test.YtancmlapnhccdaaDoorLrf
namespace Go.Proofs.YtancmlapnhccdaaDoor
open Go.RowKit

theorem own_cap' {w : World} {N n size c : Nat} {e : TypeId} {a : Option Addr} {xs : List Value} (h : w.ownsRow N e size (.slice a n c) n xs) : n ≤ c := by
  rcases h.2 with ⟨_, hn⟩ | ⟨g, cap, cur, e, _, _, hc, _⟩
  · omega
  · injection e with _ _ e3
    omega
theorem own_some' {w : World} {N n size c : Nat} {e : TypeId} {a : Option Addr} {xs : List Value} (h : w.ownsRow N e size (.slice a n c) n xs) (hn : 0 < n) : ∃ g, a = some ⟨g, 0, none⟩ := by
  obtain ⟨g, cap, hv, _⟩ := h.form hn
  injection hv with h1
  exact ⟨g, h1⟩
theorem reads_seven (w : World) : Reads (w.alloc (.cells #[.int .u8 7] 5)) (w.alloc (.cells #[.int .u8 7] 5)).heap.size 1 (some ⟨w.heap.size, 0, none⟩) ([7] : List UInt8).length (bvs [7]) := by
  refine ⟨rfl, fun _ => ⟨_, rfl, by simp, fun j u hj => ?_⟩⟩
  rw [add_mk, Nat.zero_add, (Blk.new w 5 #[.int .u8 7]).cell j]
  rw [← hj]
  rcases j with _ | j
  · rfl
  · simp [bvs]

set_option maxRecDepth 100000 in
set_option maxHeartbeats 2000000 in
theorem law8 (E : Nat → Addr) (n : Nat) (hn : n ≤ 255) (A : Option Addr) (c : Nat) (ps : List (List UInt8)) (w : World) (hE : Env w w.heap.size E) (hp : PiecesAt w w.heap.size A ps) (hroom : Room (100 * ps.flatten.length + 255)) (hl : Room ps.length) :
    Calls Tryd.prog 8 #[.int .u8 (n : Nat), .slice A ps.length c] w (LawTrue w) := by
  obtain ⟨all, hall⟩ : ∃ all, all = ps.flatten := ⟨_, rfl⟩
  have hrl : 100 * all.length + 255 ≤ 1000000000 := by rw [hall]; exact hroom
  have hw := writeTo25 E n hn A c ps w hE hp (hroom.mono (by omega)) hl
  rw [← hall] at hw
  have Hall := Lib.hid hall; clear hall
  have HE := Lib.hid (And.intro hE (And.intro hp (And.intro hl hw))); clear hE hp hroom hl hw
  go_enter Tryd.func8, Tryd.ntmps8
  go_wp2_with fail
  refine HE.out.2.2.2.mono ?_
  rintro e w1 ⟨v1, rfl, hown1, hb1⟩
  obtain ⟨a1, c1, rfl⟩ := own_slice hown1
  have hb2 : Below w1.heap.size w1 (w1.alloc (.cells #[.int .u8 7] 5)) := (Below.refl _ _).alloc (Nat.le_refl _) _
  have hb12 := below2' hb1 hb2
  have hr := readFrom26 E n hn (some ⟨w1.heap.size, 0, none⟩) 1 [7] A c ps _ ((HE.out.1.below hb12).more hb12.size) (reads_seven w1) ((HE.out.2.1.below hb12).more hb12.size) (by rw [← Hall.out]; simp only [List.length_singleton]; unfold Room; omega) HE.out.2.2.1
  rw [← Hall.out] at hr
  have H1 := Lib.hid (And.intro hown1 (And.intro hb12 (And.intro hr hb2))); clear hown1 hb1 hr hb12 hb2
  go_wp2_with fail
  refine H1.out.2.2.1.mono ?_
  rintro e w2 ⟨v2, rfl, hown2, hb2⟩
  obtain ⟨a2, c2, rfl⟩ := own_slice hown2
  have hown1 := own_keep H1.out.1 (Keep.ofBelow (below2' H1.out.2.2.2 hb2) (fun _ => False)) (fun _ _ h => h)
  have hl2 : ([7] ++ all : List UInt8).length = all.length + 1 := by simp
  rw [hl2] at hown2 ⊢
  obtain ⟨g, rfl⟩ := own_some' hown2 (by omega)
  have hcap := own_cap' hown2
  have hcell := hown2.cells (g := g) rfl
  have x0 : w2.cell? ⟨g, 0, none⟩ = some (.int .u8 7) := by
    have := hcell 0 (.int .u8 7) rfl
    rw [add_mk] at this
    exact this
  have hrd : Reads w2 (g + 1) 1 (some ⟨g, cutO 0 c2 1, none⟩) all.length (bvs all) := by
    refine ⟨by rw [bvs_length, Nat.mul_one], fun h0 => ⟨_, rfl, by simp, fun j u hj => ?_⟩⟩
    unfold cutO
    rw [if_neg (by omega), add_mk]
    have := hcell (j + 1) u (by rw [List.singleton_append]; exact hj)
    rw [add_mk] at this
    rw [show 0 + 1 + j = 0 + (j + 1) by omega]
    exact this
  have q1 := fun k => conv_str (c := c1) ((Reads.of_own hown1).drewN k)
  have q2 := fun k => conv_str (c := c2 - 1) (hrd.drewN k)
  have hsl : ∀ w, (Instr.slice 25 (.slice (some ⟨g, 0, none⟩) (all.length + 1) c2) (some (.int .i64 1)) none none).run Tryd.prog w = .ok (.slice (some ⟨g, cutO 0 c2 1, none⟩) all.length (c2 - 1)) w := by
    intro w
    have := slice_k g 0 (all.length + 1) c2 1 (by omega) hcap w
    exact this
  have i1 : IntKind.i64.wrap ((all.length : Int) + 1) = (all.length : Int) + 1 := IntWalk.i64_in _ (by omega)
  have H2 := Lib.hid (below2' H1.out.2.1 hb2); clear hown1 hown2 hb2 hcell hrd hl2
  generalize all.length = m at *
  go_wp2_with fail
  go_quiet (fail)
  go_wp2_with fail
  go_ret
  exact ⟨rfl, below_drewN H2.out _⟩
end Go.Proofs.YtancmlapnhccdaaDoor
