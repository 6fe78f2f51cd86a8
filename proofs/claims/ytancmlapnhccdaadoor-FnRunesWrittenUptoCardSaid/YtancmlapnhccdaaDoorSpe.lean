/- spec.Written: what a call writes, and what it answers. -/
import Derived.Test.YtancmlapnhccdaaDoorSpd
namespace Go.Proofs.YtancmlapnhccdaaDoor
open Go.RowKit

def Wr29 (B : Nat) (c : CallD) (w : World) (e : Ending) (w' : World) : Prop :=
  ∃ A k, e = .returned (.tuple #[.slice A (wrote c).length k, .agg (outCells none 0 0 (wrOut c).n 0)]) ∧ Reads w' w'.heap.size 1 A (wrote c).length (bvs (wrote c)) ∧ Below w.heap.size w w' ∧ (0 < (wrote c).length → ∃ ad, A = some ad ∧ (ad.block < B ∨ w.heap.size ≤ ad.block))

set_option maxHeartbeats 1000000 in
theorem written_bytes (kind n : Int) (dl : UInt8) (bs : List UInt8) (A : Option Addr) (k : Nat) (w : World) (hk : kind = 8 ∨ kind = 11) (B : Nat) (hB : B ≤ w.heap.size) (hrd : Reads w B 1 A bs.length (bvs bs)) : Calls Tryd.prog 29 #[callV ⟨kind, n, dl, bs⟩ A k] w (Wr29 B ⟨kind, n, dl, bs⟩ w) := by
  have h1 : wrote ⟨kind, n, dl, bs⟩ = bs := by unfold wrote; rw [if_pos hk]
  have h2 : (wrOut ⟨kind, n, dl, bs⟩).n = (bs.length : Nat) := by unfold wrOut; rw [if_pos hk]
  unfold Wr29
  rw [h1, h2]
  simp only [callV]
  have H := Lib.hid hrd; clear hrd h1 h2
  rcases hk with rfl | rfl
  · go_enter Tryd.func29, Tryd.ntmps29
    go_wp2_with fail
    go_region
    go_wp2_with fail
    refine bodyPost_ret (v := .tuple #[.slice A bs.length k, .agg (outCells none 0 0 ((bs.length : Nat) : Int) 0)]) (by simp [results, Tryd.results29, go_sem, outCells]) rfl ?_
    have hb : Below w.heap.size w ((w.alloc (.cells #[.int .i64 8, .int .i64 n, .int .u8 (dl.toNat : Int), .slice A bs.length k] 34)).alloc (.cells #[.slice none 0 0, .int .i64 ((bs.length : Nat) : Int), .int .i64 0] 36)) := ((Below.refl _ _).alloc (Nat.le_refl _) _).alloc (by simp) _
    refine ⟨A, k, rfl, ((H.out.below (hb.mono hB)).more (Nat.le_trans hB hb.size)).drew, hb.drew, fun h0 => ?_⟩
    obtain ⟨ad, e, hlt, _⟩ := H.out.2 h0
    exact ⟨ad, e, .inl hlt⟩
  · go_enter Tryd.func29, Tryd.ntmps29
    go_wp2_with fail
    go_region
    go_wp2_with fail
    refine bodyPost_ret (v := .tuple #[.slice A bs.length k, .agg (outCells none 0 0 ((bs.length : Nat) : Int) 0)]) (by simp [results, Tryd.results29, go_sem, outCells]) rfl ?_
    have hb : Below w.heap.size w ((w.alloc (.cells #[.int .i64 11, .int .i64 n, .int .u8 (dl.toNat : Int), .slice A bs.length k] 34)).alloc (.cells #[.slice none 0 0, .int .i64 ((bs.length : Nat) : Int), .int .i64 0] 36)) := ((Below.refl _ _).alloc (Nat.le_refl _) _).alloc (by simp) _
    refine ⟨A, k, rfl, ((H.out.below (hb.mono hB)).more (Nat.le_trans hB hb.size)).drew, hb.drew, fun h0 => ?_⟩
    obtain ⟨ad, e, hlt, _⟩ := H.out.2 h0
    exact ⟨ad, e, .inl hlt⟩
/-- bytes in a block of their own -/
theorem reads_new (w : World) (l : List UInt8) : Reads (w.alloc (.cells (bvs l).toArray 5)) (w.alloc (.cells (bvs l).toArray 5)).heap.size 1 (some ⟨w.heap.size, 0, none⟩) l.length (bvs l) := by
  refine ⟨by simp [bvs_length], fun _ => ⟨_, rfl, by simp, fun j u hj => ?_⟩⟩
  rw [add_mk, Nat.zero_add, (Blk.new w 5 (bvs l).toArray).cell j]
  simpa using hj
set_option maxHeartbeats 1000000 in
theorem written_byte (B : Nat) (n : Int) (dl : UInt8) (bs : List UInt8) (A : Option Addr) (k : Nat) (w : World) : Calls Tryd.prog 29 #[callV ⟨9, n, dl, bs⟩ A k] w (Wr29 B ⟨9, n, dl, bs⟩ w) := by
  have h1 : wrote ⟨9, n, dl, bs⟩ = [dl] := by simp [wrote]
  have h2 : (wrOut ⟨9, n, dl, bs⟩).n = 0 := by simp [wrOut, noOut]
  unfold Wr29
  rw [h1, h2]
  simp only [callV]
  clear h1 h2
  go_enter Tryd.func29, Tryd.ntmps29
  go_wp2_with fail
  refine bodyPost_ret (v := .tuple #[.slice (some ⟨w.heap.size + 2, 0, none⟩) 1 1, .agg (outCells none 0 0 0 0)]) (by simp [results, Tryd.results29, go_sem, outCells]) rfl ?_
  refine ⟨some ⟨w.heap.size + 2, 0, none⟩, 1, rfl, ?_, (((Below.refl _ _).alloc (Nat.le_refl _) _).alloc (by simp) _).alloc (by simp; omega) _, fun _ => ⟨_, rfl, .inr (by show w.heap.size ≤ w.heap.size + 2; omega)⟩⟩
  have := reads_new ((w.alloc (.cells #[.int .i64 9, .int .i64 n, .int .u8 (dl.toNat : Int), .slice A bs.length k] 34)).alloc (.cells #[.slice none 0 0, .int .i64 0, .int .i64 0] 36)) [dl]
  simpa [bvs, bv] using this
set_option maxHeartbeats 1000000 in
theorem written_rune (B : Nat) (n : Int) (dl : UInt8) (bs : List UInt8) (A : Option Addr) (k : Nat) (w : World) : Calls Tryd.prog 29 #[callV ⟨10, n, dl, bs⟩ A k] w (Wr29 B ⟨10, n, dl, bs⟩ w) := by
  obtain ⟨x, hx⟩ : ∃ x, x = IntKind.i32.wrap n := ⟨_, rfl⟩
  have hxr : -2147483648 ≤ x ∧ x ≤ 2147483647 := by rw [hx, IntKind.wrap_i32]; omega
  have h1 : wrote ⟨10, n, dl, bs⟩ = encM x := by simp [wrote, hx]
  have h2 : (wrOut ⟨10, n, dl, bs⟩).n = (encM x).length := by simp [wrOut, hx]
  unfold Wr29
  rw [h1, h2]
  simp only [callV]
  clear h1 h2
  have hx2 : IntKind.i32.wrap n = x := hx.symm
  clear hx
  have hx3 : IntKind.i64.wrap x = x := IntWalk.i64_in x (by omega)
  obtain ⟨l, hl⟩ : ∃ l, l = encM x := ⟨_, rfl⟩
  have he := fun w => encoded39 x w
  rw [← hl] at he ⊢
  have He := Lib.hid he; clear he hl
  go_enter Tryd.func29, Tryd.ntmps29
  go_wp2_with fail
  refine (He.out _).mono ?_
  rintro e w1 ⟨rfl, hw1⟩
  have hb : Below w.heap.size w w1 := by rw [hw1]; exact (((Below.refl _ _).alloc (Nat.le_refl _) _).alloc (by simp) _).alloc (by simp; omega) _
  have hr := reads_new ((w.alloc (.cells #[.int .i64 10, .int .i64 n, .int .u8 (dl.toNat : Int), .slice A bs.length k] 34)).alloc (.cells #[.slice none 0 0, .int .i64 0, .int .i64 0] 36)) l
  rw [← hw1] at hr
  have hblk : Blk w1 (w.heap.size + 1) 36 #[.slice none 0 0, .int .i64 0, .int .i64 0] := by rw [hw1]; exact (Blk.newAt _ 36 _ (by simp)).alloc _
  have d0 : w1.cell? ⟨w.heap.size + 1, 0, none⟩ = some (.slice none 0 0) := hblk.cell 0
  have d1 : w1.cell? ⟨w.heap.size + 1, 1, none⟩ = some (.int .i64 0) := hblk.cell 1
  have d2 : w1.cell? ⟨w.heap.size + 1, 2, none⟩ = some (.int .i64 0) := hblk.cell 2
  have f0 := hblk.frozen 0
  have f1 := hblk.frozen 1
  have f2 := hblk.frozen 2
  have H := Lib.hid (And.intro hb (And.intro hr hblk)); clear hb hr hblk hw1
  go_wp2_with fail
  refine bodyPost_ret (v := .tuple #[.slice (some ⟨w.heap.size + 2, 0, none⟩) l.length l.length, .agg (outCells none 0 0 ((l.length : Nat) : Int) 0)]) (by simp [results, Tryd.results29, go_sem, outCells, d0, d1, d2]) rfl ?_
  refine ⟨_, _, rfl, ?_, ?_, fun _ => ⟨_, rfl, .inr (by show w.heap.size ≤ w.heap.size + 2; omega)⟩⟩
  · have hk := outW_keep w1 (w.heap.size + 1) (.slice none 0 0) ((l.length : Nat) : Int) 0
    have hr := H.out.2.1
    refine ⟨hr.1, fun h0 => ?_⟩
    obtain ⟨ad, e1, e2, e3⟩ := hr.2 h0
    have e4 : ad = ⟨w.heap.size + 2, 0, none⟩ := by
      injection e1 with e1
      rw [← e1]; simp
    refine ⟨ad, by rw [e4], Nat.lt_of_lt_of_le e2 hk.size, fun j u hj => ?_⟩
    exact (hk.cell (p := ad.add j) (by rw [block_of_add]; exact e2) (by rw [block_of_add, e4]; simp)).trans (e3 j u hj)
  · exact H.out.1.trans ((outW_keep w1 (w.heap.size + 1) (.slice none 0 0) ((l.length : Nat) : Int) 0).below (fun k e => by omega) H.out.1.size)
set_option maxHeartbeats 1000000 in
theorem written_other (B : Nat) (kind n : Int) (dl : UInt8) (bs : List UInt8) (A : Option Addr) (k : Nat) (w : World) (h8 : kind ≠ 8) (h9 : kind ≠ 9) (h10 : kind ≠ 10) (h11 : kind ≠ 11) : Calls Tryd.prog 29 #[callV ⟨kind, n, dl, bs⟩ A k] w (Wr29 B ⟨kind, n, dl, bs⟩ w) := by
  have h1 : wrote ⟨kind, n, dl, bs⟩ = [] := by simp [wrote, h8, h9, h10, h11]
  have h2 : (wrOut ⟨kind, n, dl, bs⟩).n = 0 := by simp [wrOut, h8, h10, h11, noOut]
  have b8 : (kind == 8) = false := by simpa using h8
  have b9 : (kind == 9) = false := by simpa using h9
  have b10 : (kind == 10) = false := by simpa using h10
  have b11 : (kind == 11) = false := by simpa using h11
  unfold Wr29
  rw [h1, h2]
  simp only [callV]
  clear h1 h2 h8 h9 h10 h11
  go_enter Tryd.func29, Tryd.ntmps29
  go_wp2_with fail
  refine bodyPost_ret (v := .tuple #[.slice none 0 0, .agg (outCells none 0 0 0 0)]) (by simp [results, Tryd.results29, go_sem, outCells]) rfl ?_
  exact ⟨none, 0, rfl, Reads.none_, ((Below.refl _ _).alloc (Nat.le_refl _) _).alloc (by simp) _, fun h => absurd h (by simp)⟩
theorem written29 (c : CallD) (A : Option Addr) (k : Nat) (w : World) (B : Nat) (hB : B ≤ w.heap.size) (hrd : Reads w B 1 A c.bytes.length (bvs c.bytes)) : Calls Tryd.prog 29 #[callV c A k] w (Wr29 B c w) := by
  obtain ⟨kind, n, dl, bs⟩ := c
  by_cases h8 : kind = 8
  · exact written_bytes kind n dl bs A k w (.inl h8) B hB hrd
  by_cases h11 : kind = 11
  · exact written_bytes kind n dl bs A k w (.inr h11) B hB hrd
  by_cases h9 : kind = 9
  · subst h9; exact written_byte B n dl bs A k w
  by_cases h10 : kind = 10
  · subst h10; exact written_rune B n dl bs A k w
  · exact written_other B kind n dl bs A k w h8 h9 h10 h11
end Go.Proofs.YtancmlapnhccdaaDoor
